import JvmDerived
import JvmDerived.Pilot.@@N@@Statement
import JvmDerived.Pilot.@@N@@Code
set_option linter.unusedVariables false
set_option linter.unusedSimpArgs false
@@BLOCK:NumsL.lean.txt@@
namespace Jvm.RoadKit
open Sem ClassFile Op Lib Jvm.Stand Jvm.Free Jvm.LawKit
section Goes
variable {p : Program} {l : Launch} {e : Env} {R : Room} {s : State} {m : MethodId} {args : Array Value} {below : List Frame} {meth : Method} {c : Code} {T : State} {locs : List Loc} {cells slots : Nat}
/-- from here the run comes to its return, and Q holds there -/
def Goes (p : Program) (e : Env) (below : List Frame) (s : State) (Q : Option Value → Heap → List Loc → Prop) (kc ks : Nat) (S : State) : Prop :=
  ∃ s₂ o, Steps p.tables e below S s₂ ∧ s₂.status = .running ∧ Ended s₂ below o ∧ ∃ v L, o = .returned v ∧ Q v s₂.heap L ∧ FrameEnd s o s₂ L kc ks
variable {Q Q' : Option Value → Heap → List Loc → Prop} {kc ks : Nat} {A B : State}
theorem Goes.go (h : ∀ t, Steps p.tables e below A t → Steps p.tables e below B t) (g : Goes p e below s Q kc ks A) : Goes p e below s Q kc ks B := by
  obtain ⟨s2, o, h1, h2⟩ := g
  exact ⟨s2, o, h _ h1, h2⟩
theorem Goes.tr (h : Steps p.tables e below B A) (g : Goes p e below s Q kc ks A) : Goes p e below s Q kc ks B := g.go fun _ k => h.trans k
theorem Goes.weaken (h : ∀ v hp L, Q' v hp L → Q v hp L) (g : Goes p e below s Q' kc ks A) : Goes p e below s Q kc ks A := by
  obtain ⟨s2, o, h1, h2, h3, v, L, h4, h5, h6⟩ := g
  exact ⟨s2, o, h1, h2, h3, v, L, h4, h _ _ _ h5, h6⟩
theorem Goes.castQ (h : Q = Q') (g : Goes p e below s Q' kc ks A) : Goes p e below s Q kc ks A := h ▸ g
theorem Goes.out (X : Stand p l e R s m args below meth c T locs cells slots) (hlk : meth.locks = false) {v : Option Value} (hv : meth.sig.returnType = none → v = none) {F : State}
    (hstep : ∀ fs, (∀ (f : JFrame) (acts : List Action), f.method = m → f.locked = none → f.entered = [] → (doReturn e (T.setTop f) acts v).1 = T.setFrames fs) → Steps p.tables e below F (T.setFrames fs))
    (hq : Q v T.heap locs) (hc : cells ≤ kc) (hs : slots ≤ ks) : Goes p e below s Q kc ks F := by
  obtain ⟨fs, hr, hrun, hended, hW, hsame⟩ := X.leave (v := v) hv hlk
  exact ⟨_, _, hstep fs hr, hrun, hended, _, _, rfl, hq, ⟨_, rfl⟩, hW, hsame.mono hc hs⟩
theorem retI (X : Stand p l e R s m args below meth c T locs cells slots) (hx : p.tables.exec = Jvm.exec) {pc : Nat} {Ls : Array Slot} {z : Int32} {rest : List Value} (hret : meth.sig.returnType = some .int) (hd : decode c.code pc = .ok (.ireturn, 1)) {fs : List Frame}
    (hl : ∀ (f : JFrame) (acts : List Action), f.method = m → f.locked = none → f.entered = [] → (doReturn e (T.setTop f) acts (some (.int z))).1 = T.setFrames fs) : Steps p.tables e below (T.setTop (mkF m pc Ls (.int z :: rest))) (T.setFrames fs) := by
  have hm' : T.vm.method? m = some meth := X.method'
  have hn : narrow .int (.int z) = .int z := rfl
  show Steps p.tables e below (T.setTop { method := m, pc := pc, locals := Ls, stack := _ :: rest, locked := none }) _
  jvm_step X.here [X.here.top, hx, hd, hm', hret, hn]
  first | (intro acts; rw [hl _ acts rfl rfl rfl]) | rw [hl _ _ rfl rfl rfl]
  exact Steps.refl _
theorem Goes.retI (X : Stand p l e R s m args below meth c T locs cells slots) (hx : p.tables.exec = Jvm.exec) (hlk : meth.locks = false) (hret : meth.sig.returnType = some .int) {pc : Nat} {Ls : Array Slot} {z : Int32} {rest : List Value} (hd : decode c.code pc = .ok (.ireturn, 1))
    (hq : Q (some (.int z)) T.heap locs) (hc : cells ≤ kc) (hs : slots ≤ ks) : Goes p e below s Q kc ks (T.setTop (mkF m pc Ls (.int z :: rest))) :=
  Goes.out X hlk (fun h => by rw [hret] at h; cases h) (fun fs hr => Jvm.RoadKit.retI X hx hret hd hr) hq hc hs
theorem Goes.retN (t : FieldType) (X : Stand p l e R s m args below meth c T locs cells slots) (hx : p.tables.exec = Jvm.exec) (hlk : meth.locks = false) (hret : meth.sig.returnType = some t) (ht : t = .boolean ∨ t = .byte ∨ t = .char ∨ t = .short) {pc : Nat} {Ls : Array Slot} {z : Int32} {rest : List Value} (hd : decode c.code pc = .ok (.ireturn, 1))
    (hq : Q (some (.int (nar t z))) T.heap locs) (hc : cells ≤ kc) (hs : slots ≤ ks) : Goes p e below s Q kc ks (T.setTop (mkF m pc Ls (.int z :: rest))) :=
  Goes.out X hlk (fun h => by rw [hret] at h; cases h) (fun fs hr => Jvm.RoadKit.retN X hx hret ht hd hr) hq hc hs
theorem Goes.ret0 (X : Stand p l e R s m args below meth c T locs cells slots) (hx : p.tables.exec = Jvm.exec) (hlk : meth.locks = false) (hret : meth.sig.returnType = none) {pc : Nat} {Ls : Array Slot} (hd : decode c.code pc = .ok (.return_, 1))
    (hq : Q none T.heap locs) (hc : cells ≤ kc) (hs : slots ≤ ks) : Goes p e below s Q kc ks (T.setTop (mkF m pc Ls [])) :=
  Goes.out X hlk (fun _ => rfl) (fun fs hr => X.returnOut hx hret hd hr) hq hc hs
theorem Goes.retJ (X : Stand p l e R s m args below meth c T locs cells slots) (hx : p.tables.exec = Jvm.exec) (hlk : meth.locks = false) (hret : meth.sig.returnType = some .long) {pc : Nat} {Ls : Array Slot} {z : Int64} (hd : decode c.code pc = .ok (.lreturn, 1))
    (hq : Q (some (.long z)) T.heap locs) (hc : cells ≤ kc) (hs : slots ≤ ks) : Goes p e below s Q kc ks (T.setTop (mkF m pc Ls [.long z])) :=
  Goes.out X hlk (fun h => by rw [hret] at h; cases h) (fun fs hr => X.lreturnOut hx hret hd hr) hq hc hs
theorem Goes.retA (X : Stand p l e R s m args below meth c T locs cells slots) (hx : p.tables.exec = Jvm.exec) (hlk : meth.locks = false) {w : Value} (hw : w.isRef = true) {t : FieldType} (hret : meth.sig.returnType = some t) (ht : t.isReference = true) {pc : Nat} {Ls : Array Slot} (hd : decode c.code pc = .ok (.areturn, 1))
    (hq : Q (some w) T.heap locs) (hc : cells ≤ kc) (hs : slots ≤ ks) : Goes p e below s Q kc ks (T.setTop (mkF m pc Ls [w])) :=
  Goes.out X hlk (fun h => by rw [hret] at h; cases h) (fun fs hr => X.areturnOut hx hw hret ht hd hr) hq hc hs
/-- the answer of a method that writes nothing -/
def Qp (z : Value) (h0 : Heap) (n0 : Nat) (v : Option Value) (h : Heap) (L : List Loc) : Prop := v = some z ∧ Fr n0 L ∧ h = h0
/-- the answer of a method that writes nothing and returns nothing -/
def Qn (h0 : Heap) (n0 : Nat) (v : Option Value) (h : Heap) (L : List Loc) : Prop := v = none ∧ Fr n0 L ∧ h = h0
theorem Goes.qi {z z' : Int32} {h0 : Heap} {n0 : Nat} (h : z = z') (g : Goes p e below s (Qp (.int z') h0 n0) kc ks A) : Goes p e below s (Qp (.int z) h0 n0) kc ks A := h ▸ g
theorem Goes.qj {z z' : Int64} {h0 : Heap} {n0 : Nat} (h : z = z') (g : Goes p e below s (Qp (.long z') h0 n0) kc ks A) : Goes p e below s (Qp (.long z) h0 n0) kc ks A := h ▸ g
end Goes
end Jvm.RoadKit
namespace Jvm.RoadKit
open Sem ClassFile Op Lib Jvm.Stand Jvm.Free Jvm.LawKit
/-- an array of ints (bytes, chars, booleans): its length and what each place holds -/
def IA (Z : State) (h : Heap) (a : Addr) (ty : FieldType) (n : Nat) (f : Nat → Int32) : Prop :=
  ∃ c : Cell, Arr Z h a c ty ∧ c.slots.size = n ∧ n < 2 ^ 31 ∧ ∀ i, i < n → c.slots[i]? = some (.int (f i)) ∧ fits ty (.int (f i)) = true
def own_upd (f : Nat → Int32) (i : Nat) (v : Int32) : Nat → Int32 := fun k => if k = i then v else f k
section IAs
variable {p : Program} {l : Launch} {e : Env} {R : Room} {s : State} {m : MethodId} {args : Array Value} {below : List Frame} {meth : Method} {c : Code} {T : State} {locs : List Loc} {cells slots : Nat} {Z : State} {a0 : Array Value} {h h' : Heap} {a b : Addr} {ty : FieldType} {n : Nat} {f f' : Nat → Int32} {sl : Nat} {v : Value} {ws : List Addr}
theorem IA.lt (F : IA Z h a ty n f) : a < h.size := by obtain ⟨c, A, -⟩ := F; exact A.lt
theorem IA.ext (F : IA Z h a ty n f) (E : Ext h h') : IA Z h' a ty n f := by obtain ⟨c, A, r⟩ := F; exact ⟨c, A.ext E, r⟩
theorem IA.other (F : IA Z h b ty n f) (W : Wr h h' a sl v) (q : b ≠ a) : IA Z h' b ty n f := by obtain ⟨c, A, r⟩ := F; exact ⟨c, A.other W q, r⟩
theorem IA.keep (F : IA Z h a ty n f) (K : Keep h h' ws) (q : a ∉ ws) : IA Z h' a ty n f := by obtain ⟨c, A, r⟩ := F; exact ⟨c, ⟨K.2.1 a c A.1 q, A.2⟩, r⟩
theorem IA.as (F : IA Z h a ty n f) (q : ∀ i, i < n → f i = f' i) : IA Z h a ty n f' := by
  obtain ⟨c, A, S, M, H⟩ := F
  exact ⟨c, A, S, M, fun i hi => by rw [← q i hi]; exact H i hi⟩
theorem IA.bound (F : IA Z h a ty n f) : n < 2 ^ 31 := by obtain ⟨c, A, S, M, H⟩ := F; exact M
theorem own_nat {i : Nat} (hi : i < 2 ^ 31) : (Int32.ofNat i).toInt = i := Int32.toInt_ofNat_of_lt (by omega)
theorem own_cl {i : Nat} (hi : i < 2 ^ 31) : (Int32.ofNat i).toNatClampNeg = i := by
  have := own_nat hi
  show (Int32.ofNat i).toInt.toNat = i
  omega
theorem own_in {i : Nat} (hi : i < n) (hn : n < 2 ^ 31) : ¬ (Int32.ofNat i < 0 ∨ n ≤ (Int32.ofNat i).toNatClampNeg) := by
  rw [own_cl (by omega)]
  rintro (q | q)
  · have := Int32.lt_iff_toInt_lt.mp q
    rw [own_nat (by omega)] at this
    have z : (0 : Int32).toInt = 0 := rfl
    omega
  · omega
theorem IA.set {c : Cell} (A : Arr Z h a c ty) (S : c.slots.size = n) (M : n < 2 ^ 31) (H : ∀ i, i < n → c.slots[i]? = some (.int (f i)) ∧ fits ty (.int (f i)) = true) {i : Nat} (hi : i < n) {x : Int32} (hx : fits ty (.int x) = true) (W : Wr h h' a i (.int x)) : IA Z h' a ty n (own_upd f i x) := by
  refine ⟨c.setSlot i (.int x), A.same W, by rw [sz_set]; exact S, M, fun k hk => ?_⟩
  by_cases q : k = i
  · subst q
    simp only [own_upd, if_pos]
    exact ⟨by simp [Cell.setSlot, S, hk], hx⟩
  · simp only [own_upd, if_neg q]
    refine ⟨?_, (H k hk).2⟩
    rw [← (H k hk).1]
    simp only [Cell.setSlot]
    exact Array.getElem?_setIfInBounds_ne (Ne.symm q)
theorem own_newA (X : Stand p l e R s m args below meth c T locs cells slots) (hx : p.tables.exec = Jvm.exec) (hZ : Z.Warmed39 s.vm) {aty : ArrayType} (w : (Cond.arrayClass (newarray.typeOf aty)).before a0 Z = true) (eT : T.heap = h) {g : JFrame} (hg : g.method = m) (hd : decode c.code g.pc = .ok (.newarray aty, 2)) {z : Int32} {rest : List Value} (hs : g.stack = .int z :: rest)
    {n : Nat} (hz : z = Int32.ofNat n) {cap : Nat} (hcap : n ≤ cap) (hb : cap * 8 ≤ 536870912) (hc : cells + 1 ≤ R.cells) (hl : slots + cap ≤ R.slots) (hdv : defaultValue (newarray.typeOf aty) = .int 0) (hft : fits (newarray.typeOf aty) (.int 0) = true) {ad : String} (had : "[" ++ (newarray.typeOf aty).toString = ad) :
    ∃ T' h', Stand p l e R s m args below meth c T' locs (cells + 1) (slots + cap) ∧ T'.heap = h' ∧ Ext h h' ∧ IA Z h' h.size (newarray.typeOf aty) n (fun _ => 0) ∧ Exa Z h' h.size ad ∧
      ∀ target, Steps p.tables e below (T'.setTop { g with pc := g.pc + 2, stack := .ref h.size :: rest }) target → Steps p.tables e below (T.setTop g) target := by
  have hn31 : n < 2 ^ 31 := by omega
  have hcl : z.toNatClampNeg = n := by rw [hz]; exact own_cl hn31
  have hneg : ¬ z < 0 := by
    rw [hz]; intro q
    have := Int32.lt_iff_toInt_lt.mp q
    rw [own_nat hn31] at this
    have z : (0 : Int32).toInt = 0 := rfl
    omega
  obtain ⟨T', h', cA, X', e', E, A, EX, st⟩ := newPE X hx hZ w eT hg hd hs hneg (cap := cap) (by rw [hcl]; exact hcap) hb hc hl had
  refine ⟨T', h', X', e', E, ⟨_, A, by rw [sz_new]; exact hcl, hn31, fun i hi => ⟨?_, hft⟩⟩, EX, st⟩
  have := get_new (cA := cA) (ty := newarray.typeOf aty) (n := z) (k := Int32.ofNat i) (by rw [hcl]; exact own_in hi hn31)
  rw [own_cl (by omega), hdv] at this
  exact this
theorem own_stI (X : Stand p l e R s m args below meth c T locs cells slots) (hx : p.tables.exec = Jvm.exec) (hZ : Z.Warmed39 s.vm) (eT : T.heap = h) (A : IA Z h a .int n f) {j x : Int32} {i : Nat} (hj : j = Int32.ofNat i) (hi : i < n) {g : JFrame} (hg : g.method = m) {rest : List Value} (hs : g.stack = .int x :: .int j :: .ref a :: rest) (hd : decode c.code g.pc = .ok (.iastore, 1)) :
    ∃ T' h', Stand p l e R s m args below meth c T' (locs ++ [⟨a, i⟩]) cells slots ∧ T'.heap = h' ∧ Wr h h' a i (.int x) ∧ IA Z h' a .int n (own_upd f i x) ∧ ∀ target, Steps p.tables e below (T'.setTop { g with pc := g.pc + 1, stack := rest }) target → Steps p.tables e below (T.setTop g) target := by
  obtain ⟨cl, A, S, M, H⟩ := A
  subst hj
  obtain ⟨T', h', X', e', W, st⟩ := stI X hx hZ eT A (j := Int32.ofNat i) (by rw [S]; exact own_in hi M) hg hs hd
  rw [own_cl (by omega)] at X' W
  exact ⟨T', h', X', e', W, IA.set A S M H hi rfl W, st⟩
theorem own_stB (X : Stand p l e R s m args below meth c T locs cells slots) (hx : p.tables.exec = Jvm.exec) (hZ : Z.Warmed39 s.vm) (eT : T.heap = h) (A : IA Z h a .byte n f) {j x : Int32} {i : Nat} (hj : j = Int32.ofNat i) (hi : i < n) {g : JFrame} (hg : g.method = m) {rest : List Value} (hs : g.stack = .int x :: .int j :: .ref a :: rest) (hd : decode c.code g.pc = .ok (.bastore, 1)) :
    ∃ T' h', Stand p l e R s m args below meth c T' (locs ++ [⟨a, i⟩]) cells slots ∧ T'.heap = h' ∧ Wr h h' a i (.int (nar .byte x)) ∧ IA Z h' a .byte n (own_upd f i (nar .byte x)) ∧ ∀ target, Steps p.tables e below (T'.setTop { g with pc := g.pc + 1, stack := rest }) target → Steps p.tables e below (T.setTop g) target := by
  obtain ⟨cl, A, S, M, H⟩ := A
  subst hj
  obtain ⟨T', h', X', e', W, st⟩ := stB X hx hZ eT A (j := Int32.ofNat i) (by rw [S]; exact own_in hi M) hg hs hd
  rw [own_cl (by omega)] at X' W
  exact ⟨T', h', X', e', W, IA.set A S M H hi (fits_nar_byte _) W, st⟩
theorem own_stC (X : Stand p l e R s m args below meth c T locs cells slots) (hx : p.tables.exec = Jvm.exec) (hZ : Z.Warmed39 s.vm) (eT : T.heap = h) (A : IA Z h a .char n f) {j x : Int32} {i : Nat} (hj : j = Int32.ofNat i) (hi : i < n) {g : JFrame} (hg : g.method = m) {rest : List Value} (hs : g.stack = .int x :: .int j :: .ref a :: rest) (hd : decode c.code g.pc = .ok (.castore, 1)) :
    ∃ T' h', Stand p l e R s m args below meth c T' (locs ++ [⟨a, i⟩]) cells slots ∧ T'.heap = h' ∧ Wr h h' a i (.int (nar .char x)) ∧ IA Z h' a .char n (own_upd f i (nar .char x)) ∧ ∀ target, Steps p.tables e below (T'.setTop { g with pc := g.pc + 1, stack := rest }) target → Steps p.tables e below (T.setTop g) target := by
  obtain ⟨cl, A, S, M, H⟩ := A
  subst hj
  obtain ⟨T', h', X', e', W, st⟩ := stC X hx hZ eT A (j := Int32.ofNat i) (by rw [S]; exact own_in hi M) hg hs hd
  rw [own_cl (by omega)] at X' W
  exact ⟨T', h', X', e', W, IA.set A S M H hi (fits_nar_char _) W, st⟩
theorem own_stZ (X : Stand p l e R s m args below meth c T locs cells slots) (hx : p.tables.exec = Jvm.exec) (hZ : Z.Warmed39 s.vm) (eT : T.heap = h) (A : IA Z h a .boolean n f) {j x : Int32} {i : Nat} (hj : j = Int32.ofNat i) (hi : i < n) {g : JFrame} (hg : g.method = m) {rest : List Value} (hs : g.stack = .int x :: .int j :: .ref a :: rest) (hd : decode c.code g.pc = .ok (.bastore, 1)) :
    ∃ T' h', Stand p l e R s m args below meth c T' (locs ++ [⟨a, i⟩]) cells slots ∧ T'.heap = h' ∧ Wr h h' a i (.int (nar .boolean x)) ∧ IA Z h' a .boolean n (own_upd f i (nar .boolean x)) ∧ ∀ target, Steps p.tables e below (T'.setTop { g with pc := g.pc + 1, stack := rest }) target → Steps p.tables e below (T.setTop g) target := by
  obtain ⟨cl, A, S, M, H⟩ := A
  subst hj
  obtain ⟨T', h', X', e', W, st⟩ := stZ X hx hZ eT A (j := Int32.ofNat i) (by rw [S]; exact own_in hi M) hg hs hd
  rw [own_cl (by omega)] at X' W
  exact ⟨T', h', X', e', W, IA.set A S M H hi (fits_nar_bool _) W, st⟩
theorem own_ldI (X : Stand p l e R s m args below meth c T locs cells slots) (hx : p.tables.exec = Jvm.exec) (hZ : Z.Warmed39 s.vm) (eT : T.heap = h) (A : IA Z h a .int n f) {j : Int32} {i : Nat} (hj : j = Int32.ofNat i) (hi : i < n) {g : JFrame} (hg : g.method = m) {rest : List Value} (hs : g.stack = .int j :: .ref a :: rest) (hd : decode c.code g.pc = .ok (.iaload, 1)) :
    ∀ target, Steps p.tables e below (T.setTop { g with pc := g.pc + 1, stack := .int (f i) :: rest }) target → Steps p.tables e below (T.setTop g) target := by
  obtain ⟨cl, A, S, M, H⟩ := A
  subst hj
  exact X.iaload hx (j := Int32.ofNat i) (v := .int (f i)) (by rw [eT]; exact A.1) (State.isArrayOf_alike hZ.alike A.2.1) A.2.2 (by rw [S]; exact own_in hi M) (by rw [own_cl (by omega)]; exact (H i hi).1) hg hs hd
theorem own_ldB (X : Stand p l e R s m args below meth c T locs cells slots) (hx : p.tables.exec = Jvm.exec) (hZ : Z.Warmed39 s.vm) (eT : T.heap = h) (A : IA Z h a .byte n f) {j : Int32} {i : Nat} (hj : j = Int32.ofNat i) (hi : i < n) {g : JFrame} (hg : g.method = m) {rest : List Value} (hs : g.stack = .int j :: .ref a :: rest) (hd : decode c.code g.pc = .ok (.baload, 1)) :
    ∀ target, Steps p.tables e below (T.setTop { g with pc := g.pc + 1, stack := .int (f i) :: rest }) target → Steps p.tables e below (T.setTop g) target := by
  obtain ⟨cl, A, S, M, H⟩ := A
  subst hj
  exact X.baloadBytes hx (j := Int32.ofNat i) (v := .int (f i)) (by rw [eT]; exact A.1) (State.isArrayOf_alike hZ.alike A.2.1) A.2.2 (by rw [S]; exact own_in hi M) (by rw [own_cl (by omega)]; exact (H i hi).1) hg hs hd
theorem own_ldZ (X : Stand p l e R s m args below meth c T locs cells slots) (hx : p.tables.exec = Jvm.exec) (hZ : Z.Warmed39 s.vm) (eT : T.heap = h) (A : IA Z h a .boolean n f) {j : Int32} {i : Nat} (hj : j = Int32.ofNat i) (hi : i < n) {g : JFrame} (hg : g.method = m) {rest : List Value} (hs : g.stack = .int j :: .ref a :: rest) (hd : decode c.code g.pc = .ok (.baload, 1)) :
    ∀ target, Steps p.tables e below (T.setTop { g with pc := g.pc + 1, stack := .int (f i) :: rest }) target → Steps p.tables e below (T.setTop g) target := by
  obtain ⟨cl, A, S, M, H⟩ := A
  subst hj
  exact X.baloadBooleans hx (j := Int32.ofNat i) (v := .int (f i)) (by rw [eT]; exact A.1) (State.isArrayOf_alike hZ.alike A.2.1) A.2.2 (by rw [S]; exact own_in hi M) (by rw [own_cl (by omega)]; exact (H i hi).1) hg hs hd
theorem own_ldC (X : Stand p l e R s m args below meth c T locs cells slots) (hx : p.tables.exec = Jvm.exec) (hZ : Z.Warmed39 s.vm) (eT : T.heap = h) (A : IA Z h a .char n f) {j : Int32} {i : Nat} (hj : j = Int32.ofNat i) (hi : i < n) {g : JFrame} (hg : g.method = m) {rest : List Value} (hs : g.stack = .int j :: .ref a :: rest) (hd : decode c.code g.pc = .ok (.caload, 1)) :
    ∀ target, Steps p.tables e below (T.setTop { g with pc := g.pc + 1, stack := .int (f i) :: rest }) target → Steps p.tables e below (T.setTop g) target := by
  obtain ⟨cl, A, S, M, H⟩ := A
  subst hj
  exact X.caload hx (j := Int32.ofNat i) (v := .int (f i)) (by rw [eT]; exact A.1) (State.isArrayOf_alike hZ.alike A.2.1) A.2.2 (by rw [S]; exact own_in hi M) (by rw [own_cl (by omega)]; exact (H i hi).1) hg hs hd
theorem own_len (X : Stand p l e R s m args below meth c T locs cells slots) (hx : p.tables.exec = Jvm.exec) (hZ : Z.Warmed39 s.vm) (eT : T.heap = h) (A : IA Z h a ty n f) {g : JFrame} (hg : g.method = m) {rest : List Value} (hs : g.stack = .ref a :: rest) (hd : decode c.code g.pc = .ok (.arraylength, 1)) :
    ∀ target, Steps p.tables e below (T.setTop { g with pc := g.pc + 1, stack := .int (Int32.ofNat n) :: rest }) target → Steps p.tables e below (T.setTop g) target := by
  obtain ⟨cl, A, S, M, H⟩ := A
  subst S
  exact X.arraylength hx (by rw [eT]; exact A.1) (State.isArrayOf_alike hZ.alike A.2.1) hg hs hd
end IAs
end Jvm.RoadKit
namespace Jvm.RoadKit
open Sem ClassFile Op Lib Jvm.Stand Jvm.Free Jvm.LawKit
theorem own_eqNat {x : Int32} {n : Nat} (h : x.toInt = n) : x = Int32.ofNat n := Int32.toInt_inj.mp (by rw [h, own_nat (by have := x.toInt_lt; omega)])
theorem own_andN (x m : Int32) (k : Nat) (hk : k < 32) (hm : m.toBitVec.toNat = 2 ^ k - 1) : ∃ n : Nat, n < 2 ^ k ∧ x &&& m = Int32.ofNat n := by
  have h := Jvm.Kit.i32_mask x m hk hm
  have hpos : (0 : Int) < 2 ^ k := Int.pow_pos (by decide)
  have h1 := Int.emod_nonneg x.toInt (Int.ne_of_gt hpos)
  have h2 := Int.emod_lt_of_pos x.toInt hpos
  refine ⟨(x.toInt % 2 ^ k).toNat, ?_, own_eqNat ?_⟩
  · have e : ((2 ^ k : Nat) : Int) = (2 : Int) ^ k := by rw [Int.natCast_pow]; rfl
    omega
  · rw [h]; omega
theorem own_modN (x : Int32) (d : Nat) (h0 : 0 < d) (hd : d < 2 ^ 31) : ∃ n : Nat, n < d ∧ (x &&& 2147483647) % Int32.ofNat d = Int32.ofNat n := by
  have h := Jvm.Kit.i32_mask x 2147483647 (k := 31) (by decide) (by decide)
  have h1 := Int.emod_nonneg x.toInt (show (2 : Int) ^ 31 ≠ 0 by decide)
  have e := Jvm.Kit.i32_rem_nonneg (x := x &&& 2147483647) (y := Int32.ofNat d) (by rw [h]; exact h1)
  rw [own_nat hd] at e
  have h2 := Int.emod_nonneg (x &&& 2147483647).toInt (show (d : Int) ≠ 0 by omega)
  have h3 := Int.emod_lt_of_pos (x &&& 2147483647).toInt (show (0 : Int) < d by omega)
  exact ⟨((x &&& 2147483647).toInt % d).toNat, by omega, own_eqNat (by rw [e]; omega)⟩
theorem own_lt {i n : Nat} (hi : i < 2 ^ 31) (hn : n < 2 ^ 31) : Int32.ofNat i < Int32.ofNat n ↔ i < n := by
  rw [Int32.lt_iff_toInt_lt, own_nat hi, own_nat hn]; omega
theorem own_inj {i n : Nat} (hi : i < 2 ^ 31) (hn : n < 2 ^ 31) : Int32.ofNat i = Int32.ofNat n ↔ i = n := by
  rw [← Int32.toInt_inj, own_nat hi, own_nat hn]; omega
theorem own_add {i n : Nat} (h : i + n < 2 ^ 31) : Int32.ofNat i + Int32.ofNat n = Int32.ofNat (i + n) :=
  own_eqNat (by rw [Jvm.Kit.i32_add (by rw [own_nat (by omega), own_nat (by omega)]; omega) (by rw [own_nat (by omega), own_nat (by omega)]; omega), own_nat (by omega), own_nat (by omega)]; omega)
end Jvm.RoadKit
namespace Jvm.RoadKit
open Sem ClassFile Op Lib Jvm.Stand Jvm.Free Jvm.LawKit
section Switch
variable {p : Program} {l : Launch} {e : Env} {R : Room} {s : State} {m : MethodId} {args : Array Value} {below : List Frame} {meth : Method} {c : Code} {T : State} {locs : List Loc} {cells slots : Nat}
theorem own_lswH (X : Stand p l e R s m args below meth c T locs cells slots) (hx : p.tables.exec = Jvm.exec) {g : JFrame} (hg : g.method = m) {k : Int32} {rest : List Value} {pc0 pc' : Nat} (hpc : g.pc = pc0)
    (hs : g.stack = .int k :: rest) {dflt : Int} {pairs : Array (Int × Int)} {len : Nat} (hd : decode c.code g.pc = .ok (.lookupswitch dflt pairs, len))
    (hsorted : (pairs.toList.zip (pairs.toList.drop 1)).all (fun (a, next) => a.1 < next.1) = true) {a off : Int} (hfind : pairs.find? (·.1 == k.toInt) = some (a, off)) (ho : 0 ≤ (pc0 : Int) + off) (hp : ((pc0 : Int) + off).toNat = pc')
    (target : State) (hr : Steps p.tables e below (T.setTop { g with pc := pc', stack := rest }) target) : Steps p.tables e below (T.setTop g) target := by
  subst hpc hp
  exact X.lookupswitchHit hx hg hs hd hsorted hfind ho target hr
theorem own_lswM (X : Stand p l e R s m args below meth c T locs cells slots) (hx : p.tables.exec = Jvm.exec) {g : JFrame} (hg : g.method = m) {k : Int32} {rest : List Value} {pc0 pc' : Nat} (hpc : g.pc = pc0)
    (hs : g.stack = .int k :: rest) {dflt : Int} {pairs : Array (Int × Int)} {len : Nat} (hd : decode c.code g.pc = .ok (.lookupswitch dflt pairs, len))
    (hsorted : (pairs.toList.zip (pairs.toList.drop 1)).all (fun (a, next) => a.1 < next.1) = true) (hfind : ∀ q ∈ pairs.toList, q.1 ≠ k.toInt) (ho : 0 ≤ (pc0 : Int) + dflt) (hp : ((pc0 : Int) + dflt).toNat = pc')
    (target : State) (hr : Steps p.tables e below (T.setTop { g with pc := pc', stack := rest }) target) : Steps p.tables e below (T.setTop g) target := by
  subst hpc hp
  exact X.lookupswitchMiss hx hg hs hd hsorted (find_miss hfind) ho target hr
theorem own_nk {x y : Int32} {z : Int} (hz : y.toInt = z) (h : ¬ x = y) : z ≠ x.toInt := fun q => h (Int32.toInt_inj.mp (q.symm.trans hz.symm))
end Switch
end Jvm.RoadKit
namespace Jvm.RoadKit
open Sem ClassFile Op Lib Jvm.Stand Jvm.Free Jvm.LawKit
section Statics
variable {Z : State} {args : Array Value} {C n d K : String} {t : Term} {a : Addr}
theorem own_sta (h : (Cond.exactly (.static C n d) K).value args Z none Z [] = some true) (hi : (Cond.initialized C).before args Z = true) (hl : (Cond.laysStatic C n d).before args Z = true) : ∃ a, (Term.static C n d).eval args Z none [] Z = some (.ref a) ∧ Sta Z Z.heap C n d (.ref a) ∧ Exa Z Z.heap a K := by
  obtain ⟨a, e⟩ := exa_v h
  exact ⟨a, e, Sta.start e (Or.inr ⟨hi, hl⟩), Exa.start e h⟩
theorem own_stfI {k : Int32} (e : t.eval args Z none [] Z = some (.ref a)) (h : (Cond.eq (.field t C n d) (.int k)).value args Z none Z [] = some true) : Fld Z Z.heap a C n d (.int k) := by
  apply Fld.start
  simp only [Cond.value, Term.eval, e, Option.bind_eq_bind, Option.bind_some] at h
  cases hf : Z.fieldOf? a C n d with
  | none => simp [hf] at h
  | some x => cases x <;> simp [hf] at h ⊢; exact h
theorem own_stfJ {k : Int64} (e : t.eval args Z none [] Z = some (.ref a)) (h : (Cond.eq (.field t C n d) (.long k)).value args Z none Z [] = some true) : Fld Z Z.heap a C n d (.long k) := by
  apply Fld.start
  simp only [Cond.value, Term.eval, e, Option.bind_eq_bind, Option.bind_some] at h
  cases hf : Z.fieldOf? a C n d with
  | none => simp [hf] at h
  | some x => cases x <;> simp [hf] at h ⊢; exact h
end Statics
end Jvm.RoadKit
namespace Jvm.RoadKit
open Sem ClassFile Op Lib Jvm.Stand Jvm.Free Jvm.LawKit
theorem own_lrem {tb : Tables} [Ours tb] {e : Env} {below : List Frame} {T target : State} {m : MethodId} {c : Code} {g : JFrame} (h : At T m c below) (hx : tb.exec = Jvm.exec) (hg : g.method = m) {x y : Int64} {rest : List Value} (hd : decode c.code g.pc = .ok (.lrem, 1)) (hs : g.stack = .long y :: .long x :: rest) (hy : y ≠ 0)
    (hr : Steps tb e below (T.setTop { g with pc := g.pc + 1, stack := .long (x % y) :: rest }) target) : Steps tb e below (T.setTop g) target :=
  XS.lrem h hx hg hd hs hy (by rw [lrem_mod]; exact hr)
theorem own_irem_mod (x y : Int32) : x - (x / y) * y = x % y := by
  apply Int32.toInt_inj.mp
  have h1 := Int32.le_toInt (x % y)
  have h2 := Int32.toInt_lt (x % y)
  rw [Int32.toInt_sub, Int32.toInt_mul, Int32.toInt_div, Int.bmod_mul_bmod, Int.sub_bmod_bmod, Int.mul_comm (x.toInt.tdiv y.toInt), ← Int.tmod_def, ← Int32.toInt_mod]
  exact Int.bmod_eq_of_le_mul_two (by omega) (by omega)
theorem own_irem {tb : Tables} [Ours tb] {e : Env} {below : List Frame} {T target : State} {m : MethodId} {c : Code} {g : JFrame} (h : At T m c below) (hx : tb.exec = Jvm.exec) (hg : g.method = m) {x y : Int32} {rest : List Value} (hd : decode c.code g.pc = .ok (.irem, 1)) (hs : g.stack = .int y :: .int x :: rest) (hy : y ≠ 0)
    (hr : Steps tb e below (T.setTop { g with pc := g.pc + 1, stack := .int (x % y) :: rest }) target) : Steps tb e below (T.setTop g) target :=
  XS.irem h hx hg hd hs hy (by rw [own_irem_mod]; exact hr)
theorem own_div1 (x : Int64) : x / 1 = x := Int64.toInt_inj.mp (by
  rw [Jvm.Kit.i64_div (fun q => by have := q.2; revert this; decide)]
  show x.toInt.tdiv 1 = x.toInt
  exact Int.tdiv_one _)
end Jvm.RoadKit
namespace Jvm.RoadKit
open Sem ClassFile Op Lib Jvm.Stand Jvm.Free Jvm.LawKit
theorem own_kx {h h' : Heap} (K : Keep h h' []) : Ext h h' := ⟨K.1, fun a c q => K.2.1 a c q nin0⟩
section Unlike
variable {Z : State} {a0 : Array Value}
theorem own_nsroot {O K : String} {n : Nat} (w : (Cond.noSuperclass O).before a0 Z = true) (wk : (Cond.instantiable K n).before a0 Z = true) (hn : O ≠ K) : NS Z O K := by
  obtain ⟨c, k, h1, h2, h3, -, -⟩ := Cond.noSuperclass_spec w
  obtain ⟨t, k', g1, g2, -⟩ := Cond.instantiable_spec wk
  have ne := ids_ne h1 g1 hn
  refine ⟨c, t, h1, g1, fun fuel => ?_⟩
  cases fuel with
  | zero => rfl
  | succ f => simp [Vm.isSubclassAux, ne, h2, h3]
theorem own_nsno {C S K : String} {n : Nat} (w : (Cond.superclass C S).before a0 Z = true) (wk : (Cond.instantiable K n).before a0 Z = true) (N : NS Z C K) (hn : C ≠ K) : ∃ c t, Z.vm.findClass C = some c ∧ Z.vm.findClass K = some t ∧ Z.vm.assignable c t = false := by
  obtain ⟨c, t, h0, g0, n3⟩ := N
  obtain ⟨p, k, kp, h1, h2, h3, h4, h5, -, h7⟩ := Cond.superclass_spec h0 w
  obtain ⟨t', k', g1, g2, g3, g4, -⟩ := Cond.instantiable_spec wk
  cases g0.symm.trans g1
  have g7 : k'.isInterface = false := by
    cases hq : k'.isInterface with
    | false => rfl
    | true => rw [hq] at g4; simp at g4
  have ne := ids_ne h0 g0 hn
  refine ⟨c, t, h0, g0, ?_⟩
  show Z.vm.assignableAux (255 + 1) c t = false
  simp [Vm.assignableAux, ne, h2, g2, h5, g3, g7, Vm.isSubclass, n3]
end Unlike
end Jvm.RoadKit
namespace Jvm.RoadKit
open Sem ClassFile Op Lib Jvm.Stand Jvm.Free Jvm.LawKit
section Clone
variable {p : Program} {l : Launch} {e : Env} {R : Room} {s : State} {m : MethodId} {args : Array Value} {below : List Frame} {meth : Method} {c : Code} {T : State} {locs : List Loc} {cells slots : Nat} {Z : State} {a0 : Array Value} {h : Heap} {a : Addr} {ty : FieldType} {n : Nat} {f : Nat → Int32}
theorem own_clone (X : Stand p l e R s m args below meth c T locs cells slots) (hx : p.tables.exec = Jvm.exec) (hZ : Z.Warmed39 s.vm) {own ad : String} {index : Nat} (hown : s.vm.findClass own = some m.cls)
    (w1 : (Cond.methodLink own index ⟨ad, "clone", "()Ljava/lang/Object;"⟩).before a0 Z = true) (w2 : (Cond.sameMethod ad "java/lang/Object" "clone" "()Ljava/lang/Object;").before a0 Z = true) (w3 : (Cond.native ⟨"java/lang/Object", "clone", "()Ljava/lang/Object;"⟩).before a0 Z = true)
    (w4 : (Cond.instanceMethod ⟨"java/lang/Object", "clone", "()Ljava/lang/Object;"⟩).before a0 Z = true) (w5 : (Cond.selects ad ⟨ad, "clone", "()Ljava/lang/Object;"⟩ ⟨"java/lang/Object", "clone", "()Ljava/lang/Object;"⟩).before a0 Z = true) (w6 : (Cond.castable ad "java/lang/Cloneable").before a0 Z = true)
    (eT : T.heap = h) (A : IA Z h a ty n f) (E : Exa Z h a ad) {g : JFrame} (hg : g.method = m) (hsize : g.locals.size = c.maxLocals) {rest : List Value} (hs : g.stack = .ref a :: rest) (hd : decode c.code g.pc = .ok (.invokevirtual index, 3))
    (hf : 1 ≤ R.frames) {W cap : Nat} (hW : 2 * g.monitorRoom + (rest.map fun v => v.category).sum ≤ W) (hl : W + 14 ≤ R.locals) (hcap : n ≤ cap) (hc : cells + 1 ≤ R.cells) (hsl : slots + cap ≤ R.slots) :
    ∃ T' h', Stand p l e R s m args below meth c T' locs (cells + 1) (slots + cap) ∧ T'.heap = h' ∧ Ext h h' ∧ IA Z h' h.size ty n f ∧ Exa Z h' h.size ad ∧
      ∀ target, Steps p.tables e below (T'.setTop { g with pc := g.pc + 3, stack := .ref h.size :: rest }) target → Steps p.tables e below (T.setTop g) target := by
  obtain ⟨cl, A, S, M, H⟩ := A
  have FC : FitC Z cl := fitC_of A fun i hi v hv => by
    rw [S] at hi
    rw [(H i hi).1] at hv
    cases hv
    exact (H i hi).2
  obtain ⟨T', h', X', e', ex, A', E', st⟩ := cloneA X hx hZ hown w1 w2 w3 w4 w5 w6 eT A E FC hg hsize hs hd hf hW hl (by rw [S]; exact hcap) hc hsl
  exact ⟨T', h', X', e', ex, ⟨cloneOf cl, A', S, M, H⟩, E', st⟩
end Clone
theorem own_sub {i n : Nat} (h : n ≤ i) (hi : i < 2 ^ 31) : Int32.ofNat i - Int32.ofNat n = Int32.ofNat (i - n) :=
  own_eqNat (by rw [Jvm.Kit.i32_sub (by rw [own_nat (by omega), own_nat (by omega)]; omega) (by rw [own_nat (by omega), own_nat (by omega)]; omega), own_nat (by omega), own_nat (by omega)]; omega)
end Jvm.RoadKit
namespace Jvm.RoadKit
open Sem ClassFile Op Lib Jvm.Stand Jvm.Free Jvm.LawKit
theorem own_stak {Z : State} {h h' : Heap} {C n d D : String} {v : Value} {a : Addr} (F : Sta Z h C n d v) (K : Keep h h' [a]) (E : Exa Z h a D) : Sta Z h' C n d v := by
  obtain ⟨cf, i, k, f, st, cell, h1, h2, h3, h4, h5, h6, h7⟩ := F
  obtain ⟨cell', k', e1, -, -, e4, -⟩ := E
  have ne : st ≠ a := fun q => by
    subst q
    cases h5.symm.trans e1
    rw [e4] at h6
    cases h6
  exact ⟨cf, i, k, f, st, cell, h1, h2, h3, h4, K.2.1 _ _ h5 (ninS ne nin0), h6, h7⟩
end Jvm.RoadKit
namespace Jvm.RoadKit
theorem own_us {f : Nat → Int32} {i : Nat} {v : Int32} : own_upd f i v i = v := if_pos rfl
theorem own_un {f : Nat → Int32} {i k : Nat} {v : Int32} (h : k ≠ i) : own_upd f i v k = f k := if_neg h
end Jvm.RoadKit
namespace Jvm.Pilot.@@N@@
open Jvm Jvm.ClassFile Sem Op Lib Jvm.Free Jvm.Stand Jvm.LawKit Jvm.RoadKit Bundle Jvm.Pilot.@@N@@.Jvm.D
theorem pd_0 : parseMethodDescriptor "(D)Lcom/example/brisk_sieve/brisksieve/overlap/Verdict;" = some ⟨[.double], some (.object "com/example/brisk_sieve/brisksieve/overlap/Verdict")⟩ := by decide +kernel
theorem own_dloadN {tb : Tables} [Ours tb] {e : Env} {below : List Frame} {T target : State} {m : MethodId} {c : Code} {g : JFrame} (h : At T m c below) (hx : tb.exec = Jvm.exec) (hg : g.method = m) {k : Fin 4} {v : UInt64} (hd : decode c.code g.pc = .ok (.dload_n k, 1)) (hl : g.locals[k.val]? = some (.val (.double v)))
    (hr : Steps tb e below (T.setTop { g with pc := g.pc + 1, stack := .double v :: g.stack }) target) : Steps tb e below (T.setTop g) target := by
  subst hg
  jvm_step h [h.top, hx, hd, hl]
  exact hr
theorem own_dload {tb : Tables} [Ours tb] {e : Env} {below : List Frame} {T target : State} {m : MethodId} {c : Code} {g : JFrame} (h : At T m c below) (hx : tb.exec = Jvm.exec) (hg : g.method = m) {k : Nat} {v : UInt64} (hd : decode c.code g.pc = .ok (.dload k, 2)) (hl : g.locals[k]? = some (.val (.double v)))
    (hr : Steps tb e below (T.setTop { g with pc := g.pc + 2, stack := .double v :: g.stack }) target) : Steps tb e below (T.setTop g) target := by
  subst hg
  jvm_step h [h.top, hx, hd, hl]
  exact hr
theorem own_dstore {tb : Tables} [Ours tb] {e : Env} {below : List Frame} {T target : State} {m : MethodId} {c : Code} {g : JFrame} (h : At T m c below) (hx : tb.exec = Jvm.exec) (hg : g.method = m) {k : Nat} {x : UInt64} {rest : List Value} {l' : Array Slot} (hd : decode c.code g.pc = .ok (.dstore k, 2)) (hs : g.stack = .double x :: rest) (hl : storeLocals g.locals k (.double x) = some l')
    (hr : Steps tb e below (T.setTop { g with pc := g.pc + 2, stack := rest, locals := l' }) target) : Steps tb e below (T.setTop g) target := by
  subst hg
  jvm_step h [h.top, hx, hd, hs, hl]
  exact hr
theorem own_i2d {tb : Tables} [Ours tb] {e : Env} {below : List Frame} {T target : State} {m : MethodId} {c : Code} {g : JFrame} (h : At T m c below) (hx : tb.exec = Jvm.exec) (hg : g.method = m) {x : Int32} {rest : List Value} (hd : decode c.code g.pc = .ok (.i2d, 1)) (hs : g.stack = .int x :: rest)
    (hr : Steps tb e below (T.setTop { g with pc := g.pc + 1, stack := .double (FP.i2d x) :: rest }) target) : Steps tb e below (T.setTop g) target := by
  subst hg
  jvm_step h [h.top, hx, hd, hs]
  exact hr
theorem own_dcmp {tb : Tables} [Ours tb] {e : Env} {below : List Frame} {T target : State} {m : MethodId} {c : Code} {g : JFrame} (h : At T m c below) (hx : tb.exec = Jvm.exec) (hg : g.method = m) {o : CmpOp} {x y : UInt64} {rest : List Value} (hd : decode c.code g.pc = .ok (.dcmp o, 1)) (hs : g.stack = .double y :: .double x :: rest)
    (hr : Steps tb e below (T.setTop { g with pc := g.pc + 1, stack := .int (cmpValue (FP.dcmp x y) o) :: rest }) target) : Steps tb e below (T.setTop g) target := by
  subst hg
  jvm_step h [h.top, hx, hd, hs]
  exact hr
theorem own_ddiv {tb : Tables} [Ours tb] {e : Env} {below : List Frame} {T target : State} {m : MethodId} {c : Code} {g : JFrame} (h : At T m c below) (hx : tb.exec = Jvm.exec) (hg : g.method = m) {x y : UInt64} {rest : List Value} (hd : decode c.code g.pc = .ok (.ddiv, 1)) (hs : g.stack = .double y :: .double x :: rest) (hn : FP.ddiv x y &&& 0x7fffffffffffffff ≤ 0x7ff0000000000000)
    (hr : Steps tb e below (T.setTop { g with pc := g.pc + 1, stack := .double (FP.ddiv x y) :: rest }) target) : Steps tb e below (T.setTop g) target := by
  subst hg
  obtain ⟨gm, gp, gl, gs, gk, ge, gr⟩ := g
  dsimp only at hs hd hr h
  subst hs
  jvm_step h [h.top, hx, hd, Op.ddiv.at_number h.top hn]
  exact hr
section
open Jvm.FP.Core
abbrev vM : UInt64 := 4696837146684686336
abbrev vT75 : UInt64 := 4604930618986332160
abbrev vT40 : UInt64 := 4600877379321698714
theorem own_valM : val64 vM = .fin false 8589934592000000 (-33) := by decide +kernel
theorem own_val_quot (k : Int32) (h0 : 0 ≤ k.toInt) : val64 (ddiv (i2d k) vM) = roundRatio b64 false k.toInt.toNat 1000000 0 := by
  have hw := i2d_int k
  unfold DInt at hw
  have hs : sgn (val64 (i2d k)) = false := by
    rw [val64_i2d]
    show sgn (roundRatio b64 (decide (k.toInt < 0)) k.toInt.natAbs 1 0) = false
    rw [sgn_roundRatio]
    simp; omega
  rw [val64_ddiv, own_valM]
  cases hv : val64 (i2d k) with
  | nan => rw [hv] at hw; exact hw.elim
  | inf s => rw [hv] at hw; exact hw.elim
  | fin s c q =>
    rw [hv] at hw hs
    have hs' : s = false := hs
    subst hs'
    have hw' : ((c * 2 ^ q.toNat : Nat) : Int) = k.toInt * ((2 ^ (-q).toNat : Nat) : Int) := hw
    have hk : k.toInt = (k.toInt.toNat : Int) := by omega
    rw [hk] at hw'
    generalize k.toInt.toNat = n at hw' ⊢
    have hw2 : c * 2 ^ q.toNat = n * 2 ^ (-q).toNat := by exact_mod_cast hw'
    show (if (8589934592000000 : Nat) = 0 then (if c = 0 then Datum.nan else .inf (false != false)) else roundRatio b64 (false != false) c 8589934592000000 (q - -33)) = _
    rw [if_neg (by decide)]
    refine roundRatio_congr (by decide) (by decide) ?_
    rw [show (8589934592000000 : Nat) = 1000000 * 2 ^ 33 by decide]
    by_cases h1 : 0 ≤ q
    · rw [show (q - -33 - 0).toNat = q.toNat + 33 by omega, show (0 - (q - -33)).toNat = 0 by omega, Nat.pow_add]
      rw [show (-q).toNat = 0 by omega] at hw2
      calc c * 1000000 * (2 ^ q.toNat * 2 ^ 33) = (c * 2 ^ q.toNat) * (1000000 * 2 ^ 33) := by ac_rfl
        _ = _ := by rw [hw2]; ac_rfl
    · rw [show q.toNat = 0 by omega, Nat.pow_zero, Nat.mul_one] at hw2
      subst hw2
      by_cases h2 : -33 ≤ q
      · rw [show (0 - (q - -33)).toNat = 0 by omega]
        have h3 : (-q).toNat + (q - -33 - 0).toNat = 33 := by omega
        calc n * 2 ^ (-q).toNat * 1000000 * 2 ^ (q - -33 - 0).toNat = n * 1000000 * (2 ^ (-q).toNat * 2 ^ (q - -33 - 0).toNat) := by ac_rfl
          _ = n * 1000000 * 2 ^ 33 := by rw [← Nat.pow_add, h3]
          _ = _ := by rw [Nat.pow_zero]; ac_rfl
      · rw [show (q - -33 - 0).toNat = 0 by omega, show (-q).toNat = 33 + (0 - (q - -33)).toNat by omega, Nat.pow_add, Nat.pow_zero, Nat.mul_one]
        ac_rfl
theorem own_zq (k : Int32) (h0 : 0 ≤ k.toInt) : zval b64 (val64 (ddiv (i2d k) vM)) = (zmag b64 (roundRatio b64 false k.toInt.toNat 1000000 0) : Int) := by
  rw [own_val_quot k h0]; unfold zval; rw [sgn_roundRatio]; rfl
theorem own_q_ne (k : Int32) (h0 : 0 ≤ k.toInt) : val64 (ddiv (i2d k) vM) ≠ .nan := by
  rw [own_val_quot k h0]; exact roundRatio_ne_nan _ _ _ _ _
theorem own_q_bits (k : Int32) (h0 : 0 ≤ k.toInt) : ddiv (i2d k) vM &&& 0x7fffffffffffffff ≤ 0x7ff0000000000000 := by
  have h := (ne_nan _).mp (own_q_ne k h0)
  rw [UInt64.le_iff_toNat_le, UInt64.toNat_and]
  rw [show (0x7fffffffffffffff : UInt64).toNat = 2 ^ 63 - 1 from rfl, Nat.and_two_pow_sub_one_eq_mod]
  exact h
/-- the quotient is at least the double T -/
theorem own_q_ge (k : Int32) (h0 : 0 ≤ k.toInt) {T : UInt64} {j : Nat} (hj : zmag b64 (val64 T) * 1000000 ≤ j * 2 ^ 1074) (hT : val64 T ≠ .nan) (hs : sgn (val64 T) = false) (hk : j ≤ k.toInt.toNat) :
    dcmp (ddiv (i2d k) vM) T = some .gt ∨ dcmp (ddiv (i2d k) vM) T = some .eq := by
  rw [dcmp_ge]
  refine ⟨own_q_ne k h0, hT, ?_⟩
  rw [own_zq k h0]
  unfold zval; rw [hs]
  show (zmag b64 (val64 T) : Int) ≤ _
  have := zmag_roundRatio_ge good_b64 (s := false) (A := k.toInt.toNat) (B := 1000000) (e := 0) (e0 := b64.qmin) (V := val64 T) (by decide) (val64_fits T) (Int.le_refl _) (by decide) (by
    rw [Int.sub_self, Int.toNat_zero, Nat.pow_zero, Nat.mul_one]
    refine Nat.le_trans hj ?_
    show j * 2 ^ 1074 ≤ k.toInt.toNat * 2 ^ 1074
    exact Nat.mul_le_mul_right _ hk)
  exact_mod_cast this
/-- the quotient is below the double T: it is at most a double P that is below T -/
theorem own_q_lt (k : Int32) (h0 : 0 ≤ k.toInt) {T P : UInt64} {j : Nat} (hj : j * 2 ^ 1074 ≤ zmag b64 (val64 P) * 1000000) (hP : val64 P ≠ .nan) (hT : val64 T ≠ .nan) (hs : sgn (val64 T) = false) (hPT : zmag b64 (val64 P) < zmag b64 (val64 T)) (hk : k.toInt.toNat ≤ j) :
    dcmp (ddiv (i2d k) vM) T = some .lt := by
  rw [dcmp_lt]
  refine ⟨own_q_ne k h0, hT, ?_⟩
  rw [own_zq k h0]
  unfold zval; rw [hs]
  show _ < (zmag b64 (val64 T) : Int)
  have := zmag_roundRatio_le good_b64 (s := false) (A := k.toInt.toNat) (B := 1000000) (e := 0) (e0 := b64.qmin) (V := val64 P) (by decide) (val64_fits P) hP (Int.le_refl _) (by decide) (by
    rw [Int.sub_self, Int.toNat_zero, Nat.pow_zero, Nat.mul_one]
    refine Nat.le_trans ?_ hj
    show k.toInt.toNat * 2 ^ 1074 ≤ j * 2 ^ 1074
    exact Nat.mul_le_mul_right _ hk)
  omega
theorem own_75_ge (k : Int32) (h : 750000 ≤ k.toInt) : dcmp (ddiv (i2d k) vM) vT75 = some .gt ∨ dcmp (ddiv (i2d k) vM) vT75 = some .eq :=
  own_q_ge k (by omega) (j := 750000) (by decide +kernel) (by decide +kernel) (by decide +kernel) (by omega)
theorem own_75_lt (k : Int32) (h0 : 0 ≤ k.toInt) (h : k.toInt < 750000) : dcmp (ddiv (i2d k) vM) vT75 = some .lt :=
  own_q_lt k h0 (P := 4604930618986332159) (j := 749999) (by decide +kernel) (by decide +kernel) (by decide +kernel) (by decide +kernel) (by decide +kernel) (by omega)
theorem own_40_lt (k : Int32) (h0 : 0 ≤ k.toInt) (h : k.toInt < 400000) : dcmp (ddiv (i2d k) vM) vT40 = some .lt :=
  own_q_lt k h0 (P := 4600877379321698713) (j := 399999) (by decide +kernel) (by decide +kernel) (by decide +kernel) (by decide +kernel) (by decide +kernel) (by omega)
theorem own_40_ge (k : Int32) (h : 400000 ≤ k.toInt) : dcmp (ddiv (i2d k) vM) vT40 = some .gt ∨ dcmp (ddiv (i2d k) vM) vT40 = some .eq := by
  by_cases h1 : k.toInt = 400000
  · have h2 : k = 400000 := Int32.toInt.inj (by rw [h1]; rfl)
    subst h2
    right; decide +kernel
  · exact own_q_ge k (by omega) (j := 400001) (by decide +kernel) (by decide +kernel) (by decide +kernel) (by omega)
end
theorem own_c75_ge (k : Int32) (h : ¬ k < 750000) : ¬ (cmpValue (FP.dcmp (FP.ddiv (FP.i2d k) (4696837146684686336 : UInt64)) (4604930618986332160 : UInt64)) .l) < (0 : Int32) := by
  have h1 : 750000 ≤ k.toInt := Int.not_lt.mp fun q => h (Int32.lt_iff_toInt_lt.mpr (show k.toInt < (750000 : Int32).toInt from q))
  rcases own_75_ge k h1 with q | q
  · rw [show FP.dcmp (FP.ddiv (FP.i2d k) (4696837146684686336 : UInt64)) (4604930618986332160 : UInt64) = some .gt from q]; decide
  · rw [show FP.dcmp (FP.ddiv (FP.i2d k) (4696837146684686336 : UInt64)) (4604930618986332160 : UInt64) = some .eq from q]; decide
theorem own_c75_lt (k : Int32) (h0 : 0 ≤ k.toInt) (h : k < 750000) : (cmpValue (FP.dcmp (FP.ddiv (FP.i2d k) (4696837146684686336 : UInt64)) (4604930618986332160 : UInt64)) .l) < (0 : Int32) := by
  have q := own_75_lt k h0 (Int32.lt_iff_toInt_lt.mp h)
  rw [show FP.dcmp (FP.ddiv (FP.i2d k) (4696837146684686336 : UInt64)) (4604930618986332160 : UInt64) = some .lt from q]; decide
theorem own_c40_ge (k : Int32) (h : ¬ k < 400000) : ¬ (cmpValue (FP.dcmp (FP.ddiv (FP.i2d k) (4696837146684686336 : UInt64)) (4600877379321698714 : UInt64)) .l) < (0 : Int32) := by
  have h1 : 400000 ≤ k.toInt := Int.not_lt.mp fun q => h (Int32.lt_iff_toInt_lt.mpr (show k.toInt < (400000 : Int32).toInt from q))
  rcases own_40_ge k h1 with q | q
  · rw [show FP.dcmp (FP.ddiv (FP.i2d k) (4696837146684686336 : UInt64)) (4600877379321698714 : UInt64) = some .gt from q]; decide
  · rw [show FP.dcmp (FP.ddiv (FP.i2d k) (4696837146684686336 : UInt64)) (4600877379321698714 : UInt64) = some .eq from q]; decide
theorem own_c40_lt (k : Int32) (h0 : 0 ≤ k.toInt) (h : k < 400000) : (cmpValue (FP.dcmp (FP.ddiv (FP.i2d k) (4696837146684686336 : UInt64)) (4600877379321698714 : UInt64)) .l) < (0 : Int32) := by
  have q := own_40_lt k h0 (Int32.lt_iff_toInt_lt.mp h)
  rw [show FP.dcmp (FP.ddiv (FP.i2d k) (4696837146684686336 : UInt64)) (4600877379321698714 : UInt64) = some .lt from q]; decide
theorem own_r0 (x : Int32) : 0 ≤ (x &&& (2147483647 : Int32)).toInt := by
  rw [Jvm.Kit.i32_mask x 2147483647 (k := 31) (by decide) (by decide)]
  exact Int.emod_nonneg _ (by decide)
theorem own_rem3 (x : Int32) : 0 ≤ ((x &&& (2147483647 : Int32)) % (3 : Int32)).toInt ∧ ((x &&& (2147483647 : Int32)) % (3 : Int32)).toInt < 3 := by
  rw [Jvm.Kit.i32_rem_nonneg (own_r0 x)]
  have : (3 : Int32).toInt = 3 := rfl
  rw [this]; omega
theorem own_k0 (x m : Int32) : 0 ≤ (if (m &&& (3 : Int32)) = (1 : Int32) then (399999 : Int32) + ((x &&& (2147483647 : Int32)) % (3 : Int32)) else (if (m &&& (3 : Int32)) = (2 : Int32) then (749999 : Int32) + ((x &&& (2147483647 : Int32)) % (3 : Int32)) else ((x &&& (2147483647 : Int32)) % (1000001 : Int32)))).toInt := by
  have h3 := own_rem3 x
  have a1 : (399999 : Int32).toInt = 399999 := rfl
  have a2 : (749999 : Int32).toInt = 749999 := rfl
  have a3 : (1000001 : Int32).toInt = 1000001 := rfl
  split
  · rw [Jvm.Kit.i32_add (by rw [a1]; omega) (by rw [a1]; omega), a1]; omega
  · split
    · rw [Jvm.Kit.i32_add (by rw [a2]; omega) (by rw [a2]; omega), a2]; omega
    · rw [Jvm.Kit.i32_rem_nonneg (own_r0 x), a3]
      exact Int.emod_nonneg _ (by decide)
theorem d1_0 : decode prog_92_method_4_code 0 = .ok (.dload_n 0, 1) := by decide +kernel
theorem d1_1 : decode prog_92_method_4_code 1 = .ok (.ldc2_w 32, 3) := by decide +kernel
theorem d1_4 : decode prog_92_method_4_code 4 = .ok (.dcmp .l, 1) := by decide +kernel
theorem d1_5 : decode prog_92_method_4_code 5 = .ok (.ifCond .lt 10, 3) := by decide +kernel
theorem d1_8 : decode prog_92_method_4_code 8 = .ok (.getstatic 10, 3) := by decide +kernel
theorem d1_11 : decode prog_92_method_4_code 11 = .ok (.astore_n 2, 1) := by decide +kernel
theorem d1_12 : decode prog_92_method_4_code 12 = .ok (.goto 22, 3) := by decide +kernel
theorem d1_15 : decode prog_92_method_4_code 15 = .ok (.dload_n 0, 1) := by decide +kernel
theorem d1_16 : decode prog_92_method_4_code 16 = .ok (.ldc2_w 34, 3) := by decide +kernel
theorem d1_19 : decode prog_92_method_4_code 19 = .ok (.dcmp .l, 1) := by decide +kernel
theorem d1_20 : decode prog_92_method_4_code 20 = .ok (.ifCond .lt 10, 3) := by decide +kernel
theorem d1_23 : decode prog_92_method_4_code 23 = .ok (.getstatic 7, 3) := by decide +kernel
theorem d1_26 : decode prog_92_method_4_code 26 = .ok (.astore_n 2, 1) := by decide +kernel
theorem d1_27 : decode prog_92_method_4_code 27 = .ok (.goto 7, 3) := by decide +kernel
theorem d1_30 : decode prog_92_method_4_code 30 = .ok (.getstatic 3, 3) := by decide +kernel
theorem d1_33 : decode prog_92_method_4_code 33 = .ok (.astore_n 2, 1) := by decide +kernel
theorem d1_34 : decode prog_92_method_4_code 34 = .ok (.aload_n 2, 1) := by decide +kernel
theorem d1_35 : decode prog_92_method_4_code 35 = .ok (.areturn, 1) := by decide +kernel
theorem pn_1 : plainName "com/example/brisk_sieve/brisksieve/overlap/Verdict" = true := by first | (simp [plainName, overriddenIn]; done) | decide +kernel
theorem ef_rm1 (m : MethodId) (x0 : UInt64) : entryFrame m #[(.double x0)] 3 = mkF m 0 #[.val (.double x0), .second, .unset] [] := by first | (simp [entryFrame, mkF, argsToLocals, Value.category]; done) | rfl
def g_rm1_r (fd0 : UInt64) (vs : Addr) (vp : Addr) (vn : Addr) : Addr := (if (cmpValue (FP.dcmp fd0 (4604930618986332160 : UInt64)) .l) < (0 : Int32) then (if (cmpValue (FP.dcmp fd0 (4600877379321698714 : UInt64)) .l) < (0 : Int32) then vn else vp) else vs)
def Q_rm1 (Z : State) (fd0 : UInt64) (vs : Addr) (vp : Addr) (vn : Addr) (h0 : Heap) (n0 : Nat) (v : Option Value) (h : Heap) (L : List Loc) : Prop := v = some (.ref (g_rm1_r fd0 vs vp vn)) ∧ Fr n0 L ∧ Keep h0 h [] ∧ True
set_option maxRecDepth 65536 in
set_option maxHeartbeats 40000000 in
theorem rm1 (l : Launch) (Z : State) (a0 : Array Value) (hw : ∀ d ∈ tables_1, d.before a0 Z = true) (ws : List Jvm.Cond) (fd0 : UInt64) (vs : Addr) (vp : Addr) (vn : Addr) (h0 : Heap) (n0 : Nat) (Z0 : n0 ≤ h0.size) (S_SUSPECTED : Sta Z h0 "com/example/brisk_sieve/brisksieve/overlap/Verdict" "SUSPECTED" "Lcom/example/brisk_sieve/brisksieve/overlap/Verdict;" (.ref vs)) (S_POSSIBLE : Sta Z h0 "com/example/brisk_sieve/brisksieve/overlap/Verdict" "POSSIBLE" "Lcom/example/brisk_sieve/brisksieve/overlap/Verdict;" (.ref vp)) (S_NONE : Sta Z h0 "com/example/brisk_sieve/brisksieve/overlap/Verdict" "NONE" "Lcom/example/brisk_sieve/brisksieve/overlap/Verdict;" (.ref vn)) :
    MetFree l (⟨"com/example/brisk_sieve/brisksieve/overlap/Verdict", "of", "(D)Lcom/example/brisk_sieve/brisksieve/overlap/Verdict;"⟩ : MethodName) (head1 (Jvm.Cond.code (⟨"com/example/brisk_sieve/brisksieve/overlap/Verdict", "of", "(D)Lcom/example/brisk_sieve/brisksieve/overlap/Verdict;"⟩ : MethodName) prog_92_method_4_code 3 (some (.object "com/example/brisk_sieve/brisksieve/overlap/Verdict")) :: ws) ({ frames := 0, cells := 0, slots := 0, locals := 0 } : Room)) (fun a U => a = #[(.double fd0)] ∧ Z.Warmed39 U.vm ∧ U.heap = h0) (fun _ _ _ _ _ => True) (fun _ U o U' => ∃ v L, o = .returned v ∧ Q_rm1 Z fd0 vs vp vn h0 n0 v U'.heap L ∧ FrameEnd U o U' L ({ frames := 0, cells := 0, slots := 0, locals := 0 } : Room).cells ({ frames := 0, cells := 0, slots := 0, locals := 0 } : Room).slots) := by
  refine MetFree.of_bodySF (plainFor_of_name pn_1) hisR ?_
  intro p e s m args below meth c s₁ Bd hml0 hP hK
  obtain ⟨rfl, hZ, hh⟩ := hP
  have hx := Bd.exec
  have hby := Bd.bytes
  have hml : c.maxLocals = 3 := hml0
  have hown : s.vm.findClass "com/example/brisk_sieve/brisksieve/overlap/Verdict" = some m.cls := findClass_of_methodNamed Bd.named
  have hnm := (name_of_methodNamed Bd.named Bd.method).1
  have hlk : meth.locks = false := BodyLoose.notSynchronized Bd
  have X0 : Stand p l e ({ frames := 0, cells := 0, slots := 0, locals := 0 } : Room) s m #[(.double fd0)] below meth c s₁ [] 0 0 := Stand.of_body Bd
  have e0 : s₁.heap = h0 := by rw [← hh, Bd.state]; rfl
  have N0 := Fr.nil n0
  have K0 : Keep h0 h0 [] := Keep.refl _ _
  show Goes p e below s (Q_rm1 Z fd0 vs vp vn h0 n0) ({ frames := 0, cells := 0, slots := 0, locals := 0 } : Room).cells ({ frames := 0, cells := 0, slots := 0, locals := 0 } : Room).slots (s₁.setTop (entryFrame m #[(.double fd0)] 3))
  rw [ef_rm1]
  show Goes p e below s _ _ _ (s₁.setTop (mkF m 0 #[.val (.double fd0), .second, .unset] []))
  refine Goes.go (fun _ kst => own_dloadN X0.here hx rfl (hb hby d1_0) rfl kst) ?_
  show Goes p e below s _ _ _ (s₁.setTop (mkF m 1 #[.val (.double fd0), .second, .unset] [(.double fd0)]))
  refine Goes.go (fun _ kst => X0.ldc2DoubleC hx hown (mvT hZ (hw _ (List.mem_of_getElem? (i := 11) rfl))) (g := (mkF m 1 #[.val (.double fd0), .second, .unset] [(.double fd0)])) rfl (hb hby d1_1) _ kst) ?_
  show Goes p e below s _ _ _ (s₁.setTop (mkF m 4 #[.val (.double fd0), .second, .unset] [(.double (4604930618986332160 : UInt64)), (.double fd0)]))
  refine Goes.go (fun _ kst => own_dcmp X0.here hx rfl (hb hby d1_4) rfl kst) ?_
  show Goes p e below s _ _ _ (s₁.setTop (mkF m 5 #[.val (.double fd0), .second, .unset] [(.int (cmpValue (FP.dcmp fd0 (4604930618986332160 : UInt64)) .l))]))
  by_cases hc5_1 : (cmpValue (FP.dcmp fd0 (4604930618986332160 : UInt64)) .l) < (0 : Int32)
  · skip
    refine Goes.go (fun _ kst => XS.ifYes X0.here hx rfl (pc0 := 5) (pc' := 15) rfl (hb hby d1_5) rfl ((if0 _ _).trans (tlt hc5_1).1) (by decide) (by decide) kst) ?_
    show Goes p e below s _ _ _ (s₁.setTop (mkF m 15 #[.val (.double fd0), .second, .unset] []))
    refine Goes.go (fun _ kst => own_dloadN X0.here hx rfl (hb hby d1_15) rfl kst) ?_
    show Goes p e below s _ _ _ (s₁.setTop (mkF m 16 #[.val (.double fd0), .second, .unset] [(.double fd0)]))
    refine Goes.go (fun _ kst => X0.ldc2DoubleC hx hown (mvT hZ (hw _ (List.mem_of_getElem? (i := 12) rfl))) (g := (mkF m 16 #[.val (.double fd0), .second, .unset] [(.double fd0)])) rfl (hb hby d1_16) _ kst) ?_
    show Goes p e below s _ _ _ (s₁.setTop (mkF m 19 #[.val (.double fd0), .second, .unset] [(.double (4600877379321698714 : UInt64)), (.double fd0)]))
    refine Goes.go (fun _ kst => own_dcmp X0.here hx rfl (hb hby d1_19) rfl kst) ?_
    show Goes p e below s _ _ _ (s₁.setTop (mkF m 20 #[.val (.double fd0), .second, .unset] [(.int (cmpValue (FP.dcmp fd0 (4600877379321698714 : UInt64)) .l))]))
    by_cases hc20_2 : (cmpValue (FP.dcmp fd0 (4600877379321698714 : UInt64)) .l) < (0 : Int32)
    · skip
      refine Goes.go (fun _ kst => XS.ifYes X0.here hx rfl (pc0 := 20) (pc' := 30) rfl (hb hby d1_20) rfl ((if0 _ _).trans (tlt hc20_2).1) (by decide) (by decide) kst) ?_
      show Goes p e below s _ _ _ (s₁.setTop (mkF m 30 #[.val (.double fd0), .second, .unset] []))
      obtain ⟨T3, X3, e3, st3⟩ := getS2 X0 hx hZ hown (host := "") (Or.inl (hw _ (List.mem_of_getElem? (i := 13) rfl))) Via.refl e0 S_NONE (g := (mkF m 30 #[.val (.double fd0), .second, .unset] [])) rfl (hb hby d1_30)
      refine Goes.go st3 ?_
      show Goes p e below s _ _ _ (T3.setTop (mkF m 33 #[.val (.double fd0), .second, .unset] [(.ref vn)]))
      refine Goes.go (fun _ kst => XS.astoreN X3.here hx rfl (hb hby d1_33) rfl rfl (l' := #[.val (.double fd0), .second, .val (.ref vn)]) rfl kst) ?_
      show Goes p e below s _ _ _ (T3.setTop (mkF m 34 #[.val (.double fd0), .second, .val (.ref vn)] []))
      refine Goes.go (fun _ kst => XS.aloadN X3.here hx rfl (hb hby d1_34) rfl rfl  kst) ?_
      show Goes p e below s _ _ _ (T3.setTop (mkF m 35 #[.val (.double fd0), .second, .val (.ref vn)] [(.ref vn)]))
      refine Goes.retA X3 hx hlk rfl Bd.returns rfl (hb hby d1_35) ?_ (by decide) (by decide)
      exact (show Q_rm1 Z fd0 vs vp vn h0 n0 _ T3.heap _ by rw [e3]; exact ⟨(by rw [show (g_rm1_r fd0 vs vp vn) = vn from by simp only [g_rm1_r, if_pos hc5_1, if_pos hc20_2]]), N0, K0, trivial⟩)
    · skip
      refine Goes.go (fun _ kst => XS.ifNo X0.here hx rfl (hb hby d1_20) rfl ((if0 _ _).trans (flt hc20_2).1) kst) ?_
      show Goes p e below s _ _ _ (s₁.setTop (mkF m 23 #[.val (.double fd0), .second, .unset] []))
      obtain ⟨T4, X4, e4, st4⟩ := getS2 X0 hx hZ hown (host := "") (Or.inl (hw _ (List.mem_of_getElem? (i := 17) rfl))) Via.refl e0 S_POSSIBLE (g := (mkF m 23 #[.val (.double fd0), .second, .unset] [])) rfl (hb hby d1_23)
      refine Goes.go st4 ?_
      show Goes p e below s _ _ _ (T4.setTop (mkF m 26 #[.val (.double fd0), .second, .unset] [(.ref vp)]))
      refine Goes.go (fun _ kst => XS.astoreN X4.here hx rfl (hb hby d1_26) rfl rfl (l' := #[.val (.double fd0), .second, .val (.ref vp)]) rfl kst) ?_
      show Goes p e below s _ _ _ (T4.setTop (mkF m 27 #[.val (.double fd0), .second, .val (.ref vp)] []))
      refine Goes.go (fun _ kst => XS.goto X4.here hx rfl (pc0 := 27) (pc' := 34) rfl (hb hby d1_27) (by decide) (by decide) kst) ?_
      show Goes p e below s _ _ _ (T4.setTop (mkF m 34 #[.val (.double fd0), .second, .val (.ref vp)] []))
      refine Goes.go (fun _ kst => XS.aloadN X4.here hx rfl (hb hby d1_34) rfl rfl  kst) ?_
      show Goes p e below s _ _ _ (T4.setTop (mkF m 35 #[.val (.double fd0), .second, .val (.ref vp)] [(.ref vp)]))
      refine Goes.retA X4 hx hlk rfl Bd.returns rfl (hb hby d1_35) ?_ (by decide) (by decide)
      exact (show Q_rm1 Z fd0 vs vp vn h0 n0 _ T4.heap _ by rw [e4]; exact ⟨(by rw [show (g_rm1_r fd0 vs vp vn) = vp from by simp only [g_rm1_r, if_pos hc5_1, if_neg hc20_2]]), N0, K0, trivial⟩)
  · skip
    refine Goes.go (fun _ kst => XS.ifNo X0.here hx rfl (hb hby d1_5) rfl ((if0 _ _).trans (flt hc5_1).1) kst) ?_
    show Goes p e below s _ _ _ (s₁.setTop (mkF m 8 #[.val (.double fd0), .second, .unset] []))
    obtain ⟨T5, X5, e5, st5⟩ := getS2 X0 hx hZ hown (host := "") (Or.inl (hw _ (List.mem_of_getElem? (i := 21) rfl))) Via.refl e0 S_SUSPECTED (g := (mkF m 8 #[.val (.double fd0), .second, .unset] [])) rfl (hb hby d1_8)
    refine Goes.go st5 ?_
    show Goes p e below s _ _ _ (T5.setTop (mkF m 11 #[.val (.double fd0), .second, .unset] [(.ref vs)]))
    refine Goes.go (fun _ kst => XS.astoreN X5.here hx rfl (hb hby d1_11) rfl rfl (l' := #[.val (.double fd0), .second, .val (.ref vs)]) rfl kst) ?_
    show Goes p e below s _ _ _ (T5.setTop (mkF m 12 #[.val (.double fd0), .second, .val (.ref vs)] []))
    refine Goes.go (fun _ kst => XS.goto X5.here hx rfl (pc0 := 12) (pc' := 34) rfl (hb hby d1_12) (by decide) (by decide) kst) ?_
    show Goes p e below s _ _ _ (T5.setTop (mkF m 34 #[.val (.double fd0), .second, .val (.ref vs)] []))
    refine Goes.go (fun _ kst => XS.aloadN X5.here hx rfl (hb hby d1_34) rfl rfl  kst) ?_
    show Goes p e below s _ _ _ (T5.setTop (mkF m 35 #[.val (.double fd0), .second, .val (.ref vs)] [(.ref vs)]))
    refine Goes.retA X5 hx hlk rfl Bd.returns rfl (hb hby d1_35) ?_ (by decide) (by decide)
    exact (show Q_rm1 Z fd0 vs vp vn h0 n0 _ T5.heap _ by rw [e5]; exact ⟨(by rw [show (g_rm1_r fd0 vs vp vn) = vs from by simp only [g_rm1_r, if_neg hc5_1]]), N0, K0, trivial⟩)
theorem own_rs (k : Int32) (h0 : 0 ≤ k.toInt) (vs vp vn : Addr) (h : ¬ k < (750000 : Int32)) : g_rm1_r (FP.ddiv (FP.i2d k) (4696837146684686336 : UInt64)) vs vp vn = vs := by
  unfold g_rm1_r
  rw [if_neg (own_c75_ge k h)]
theorem own_rp (k : Int32) (h0 : 0 ≤ k.toInt) (vs vp vn : Addr) (h : k < (750000 : Int32)) (h' : ¬ k < (400000 : Int32)) : g_rm1_r (FP.ddiv (FP.i2d k) (4696837146684686336 : UInt64)) vs vp vn = vp := by
  unfold g_rm1_r
  rw [if_pos (own_c75_lt k h0 h), if_neg (own_c40_ge k h')]
theorem own_rn (k : Int32) (h0 : 0 ≤ k.toInt) (vs vp vn : Addr) (h : k < (750000 : Int32)) (h' : k < (400000 : Int32)) : g_rm1_r (FP.ddiv (FP.i2d k) (4696837146684686336 : UInt64)) vs vp vn = vn := by
  unfold g_rm1_r
  rw [if_pos (own_c75_lt k h0 h), if_pos (own_c40_lt k h0 h')]
theorem pn_0 : plainName "com/example/brisk_sieve/brisksieve/overlap/VerdictOfPinLaw" = true := by first | (simp [plainName, overriddenIn]; done) | decide +kernel
theorem ef_rm0 (m : MethodId) (x0 : Int32) (x1 : Int32) : entryFrame m #[(.int x0), (.int x1)] maxLocals = mkF m 0 #[.val (.int x0), .val (.int x1), .unset, .unset, .unset, .unset, .unset, .unset] [] := by first | (simp [entryFrame, mkF, argsToLocals, Value.category, maxLocals]; done) | rfl
def Q0 (n0 : Nat) (v : Option Value) (h : Heap) (L : List Loc) : Prop := v = some (.int 1) ∧ Fr n0 L
set_option maxRecDepth 65536 in
set_option maxHeartbeats 40000000 in
theorem rm0 (l : Launch) (Z : State) (a0 : Array Value) (hw : ∀ d ∈ tables_1, d.before a0 Z = true) (ws : List Jvm.Cond) (p0 : Int32) (p1 : Int32) (vs : Addr) (vp : Addr) (vn : Addr) (h0 : Heap) (n0 : Nat) (Z0 : n0 ≤ h0.size) (S_SUSPECTED : Sta Z h0 "com/example/brisk_sieve/brisksieve/overlap/Verdict" "SUSPECTED" "Lcom/example/brisk_sieve/brisksieve/overlap/Verdict;" (.ref vs)) (S_POSSIBLE : Sta Z h0 "com/example/brisk_sieve/brisksieve/overlap/Verdict" "POSSIBLE" "Lcom/example/brisk_sieve/brisksieve/overlap/Verdict;" (.ref vp)) (S_NONE : Sta Z h0 "com/example/brisk_sieve/brisksieve/overlap/Verdict" "NONE" "Lcom/example/brisk_sieve/brisksieve/overlap/Verdict;" (.ref vn)) :
    MetFree l x (head1 (Jvm.Cond.code x code maxLocals ret :: ws) room_1) (fun a U => a = #[(.int p0), (.int p1)] ∧ Z.Warmed39 U.vm ∧ U.heap = h0) (fun _ _ _ _ _ => True) (fun _ U o U' => ∃ v L, o = .returned v ∧ Q0 n0 v U'.heap L ∧ FrameEnd U o U' L room_1.cells room_1.slots) := by
  refine MetFree.of_bodySF (plainFor_of_name pn_0) hisR ?_
  intro p e s m args below meth c s₁ Bd hml0 hP hK
  obtain ⟨rfl, hZ, hh⟩ := hP
  have hx := Bd.exec
  have hby := Bd.bytes
  have hml : c.maxLocals = 8 := hml0
  have hown : s.vm.findClass "com/example/brisk_sieve/brisksieve/overlap/VerdictOfPinLaw" = some m.cls := findClass_of_methodNamed Bd.named
  have hnm := (name_of_methodNamed Bd.named Bd.method).1
  have hlk : meth.locks = false := BodyLoose.notSynchronized Bd
  have X0 : Stand p l e room_1 s m #[(.int p0), (.int p1)] below meth c s₁ [] 0 0 := Stand.of_body Bd
  have e0 : s₁.heap = h0 := by rw [← hh, Bd.state]; rfl
  have N0 := Fr.nil n0
  have K0 : Keep h0 h0 [] := Keep.refl _ _
  show Goes p e below s (Q0 n0) room_1.cells room_1.slots (s₁.setTop (entryFrame m #[(.int p0), (.int p1)] maxLocals))
  rw [ef_rm0]
  show Goes p e below s _ _ _ (s₁.setTop (mkF m 0 #[.val (.int p0), .val (.int p1), .unset, .unset, .unset, .unset, .unset, .unset] []))
  refine Goes.go (fun _ kst => XS.iloadN X0.here hx rfl (hb hby at_0) rfl  kst) ?_
  show Goes p e below s _ _ _ (s₁.setTop (mkF m 1 #[.val (.int p0), .val (.int p1), .unset, .unset, .unset, .unset, .unset, .unset] [(.int p0)]))
  refine Goes.go (fun _ kst => X0.ldcInt hx hown (mvT hZ (hw _ (List.mem_of_getElem? (i := 0) rfl))) (g := (mkF m 1 #[.val (.int p0), .val (.int p1), .unset, .unset, .unset, .unset, .unset, .unset] [(.int p0)])) rfl (hb hby at_1) _ kst) ?_
  show Goes p e below s _ _ _ (s₁.setTop (mkF m 3 #[.val (.int p0), .val (.int p1), .unset, .unset, .unset, .unset, .unset, .unset] [(.int (2147483647 : Int32)), (.int p0)]))
  refine Goes.go (fun _ kst => XS.iand X0.here hx rfl (hb hby at_3) rfl kst) ?_
  show Goes p e below s _ _ _ (s₁.setTop (mkF m 4 #[.val (.int p0), .val (.int p1), .unset, .unset, .unset, .unset, .unset, .unset] [(.int (p0 &&& (2147483647 : Int32)))]))
  refine Goes.go (fun _ kst => XS.istoreN X0.here hx rfl (hb hby at_4) rfl (l' := #[.val (.int p0), .val (.int p1), .val (.int (p0 &&& (2147483647 : Int32))), .unset, .unset, .unset, .unset, .unset]) rfl kst) ?_
  show Goes p e below s _ _ _ (s₁.setTop (mkF m 5 #[.val (.int p0), .val (.int p1), .val (.int (p0 &&& (2147483647 : Int32))), .unset, .unset, .unset, .unset, .unset] []))
  refine Goes.go (fun _ kst => XS.iloadN X0.here hx rfl (hb hby at_5) rfl  kst) ?_
  show Goes p e below s _ _ _ (s₁.setTop (mkF m 6 #[.val (.int p0), .val (.int p1), .val (.int (p0 &&& (2147483647 : Int32))), .unset, .unset, .unset, .unset, .unset] [(.int p1)]))
  refine Goes.go (fun _ kst => XS.iconst X0.here hx rfl (hb hby at_6) kst) ?_
  show Goes p e below s _ _ _ (s₁.setTop (mkF m 7 #[.val (.int p0), .val (.int p1), .val (.int (p0 &&& (2147483647 : Int32))), .unset, .unset, .unset, .unset, .unset] [(.int (3 : Int32)), (.int p1)]))
  refine Goes.go (fun _ kst => XS.iand X0.here hx rfl (hb hby at_7) rfl kst) ?_
  show Goes p e below s _ _ _ (s₁.setTop (mkF m 8 #[.val (.int p0), .val (.int p1), .val (.int (p0 &&& (2147483647 : Int32))), .unset, .unset, .unset, .unset, .unset] [(.int (p1 &&& (3 : Int32)))]))
  refine Goes.go (fun _ kst => XS.istoreN X0.here hx rfl (hb hby at_8) rfl (l' := #[.val (.int p0), .val (.int p1), .val (.int (p0 &&& (2147483647 : Int32))), .val (.int (p1 &&& (3 : Int32))), .unset, .unset, .unset, .unset]) rfl kst) ?_
  show Goes p e below s _ _ _ (s₁.setTop (mkF m 9 #[.val (.int p0), .val (.int p1), .val (.int (p0 &&& (2147483647 : Int32))), .val (.int (p1 &&& (3 : Int32))), .unset, .unset, .unset, .unset] []))
  refine Goes.go (fun _ kst => XS.iloadN X0.here hx rfl (hb hby at_9) rfl  kst) ?_
  show Goes p e below s _ _ _ (s₁.setTop (mkF m 10 #[.val (.int p0), .val (.int p1), .val (.int (p0 &&& (2147483647 : Int32))), .val (.int (p1 &&& (3 : Int32))), .unset, .unset, .unset, .unset] [(.int (p1 &&& (3 : Int32)))]))
  refine Goes.go (fun _ kst => XS.iconst X0.here hx rfl (hb hby at_10) kst) ?_
  show Goes p e below s _ _ _ (s₁.setTop (mkF m 11 #[.val (.int p0), .val (.int p1), .val (.int (p0 &&& (2147483647 : Int32))), .val (.int (p1 &&& (3 : Int32))), .unset, .unset, .unset, .unset] [(.int (1 : Int32)), (.int (p1 &&& (3 : Int32)))]))
  obtain ⟨z1_l4, hz1_l4⟩ : ∃ z : Int32, z = if (p1 &&& (3 : Int32)) = (1 : Int32) then ((399999 : Int32) + ((p0 &&& (2147483647 : Int32)) % (3 : Int32))) else (if (p1 &&& (3 : Int32)) = (2 : Int32) then ((749999 : Int32) + ((p0 &&& (2147483647 : Int32)) % (3 : Int32))) else ((p0 &&& (2147483647 : Int32)) % (1000001 : Int32))) := ⟨_, rfl⟩
  have sm1 : ∀ t, Steps p.tables e below (s₁.setTop (mkF m 47 #[.val (.int p0), .val (.int p1), .val (.int (p0 &&& (2147483647 : Int32))), .val (.int (p1 &&& (3 : Int32))), .val (.int z1_l4), .unset, .unset, .unset] [])) t → Steps p.tables e below (s₁.setTop (mkF m 11 #[.val (.int p0), .val (.int p1), .val (.int (p0 &&& (2147483647 : Int32))), .val (.int (p1 &&& (3 : Int32))), .unset, .unset, .unset, .unset] [(.int (1 : Int32)), (.int (p1 &&& (3 : Int32)))])) t := by
    intro t kst
    by_cases hc11_1 : (p1 &&& (3 : Int32)) = (1 : Int32)
    · have kst2 : Steps p.tables e below (s₁.setTop (mkF m 47 #[.val (.int p0), .val (.int p1), .val (.int (p0 &&& (2147483647 : Int32))), .val (.int (p1 &&& (3 : Int32))), .val (.int ((399999 : Int32) + ((p0 &&& (2147483647 : Int32)) % (3 : Int32)))), .unset, .unset, .unset] [])) t := by simpa only [hz1_l4, if_pos hc11_1] using kst
      show Steps p.tables e below (s₁.setTop (mkF m 11 #[.val (.int p0), .val (.int p1), .val (.int (p0 &&& (2147483647 : Int32))), .val (.int (p1 &&& (3 : Int32))), .unset, .unset, .unset, .unset] [(.int (1 : Int32)), (.int (p1 &&& (3 : Int32)))])) _
      refine XS.icmpNo X0.here hx rfl (hb hby at_11) rfl (teq hc11_1).2 ?_
      show Steps p.tables e below (s₁.setTop (mkF m 14 #[.val (.int p0), .val (.int p1), .val (.int (p0 &&& (2147483647 : Int32))), .val (.int (p1 &&& (3 : Int32))), .unset, .unset, .unset, .unset] [])) _
      refine X0.ldcInt hx hown (mvT hZ (hw _ (List.mem_of_getElem? (i := 14) rfl))) (g := (mkF m 14 #[.val (.int p0), .val (.int p1), .val (.int (p0 &&& (2147483647 : Int32))), .val (.int (p1 &&& (3 : Int32))), .unset, .unset, .unset, .unset] [])) rfl (hb hby at_14) _ ?_
      show Steps p.tables e below (s₁.setTop (mkF m 16 #[.val (.int p0), .val (.int p1), .val (.int (p0 &&& (2147483647 : Int32))), .val (.int (p1 &&& (3 : Int32))), .unset, .unset, .unset, .unset] [(.int (399999 : Int32))])) _
      refine XS.iloadN X0.here hx rfl (hb hby at_16) rfl  ?_
      show Steps p.tables e below (s₁.setTop (mkF m 17 #[.val (.int p0), .val (.int p1), .val (.int (p0 &&& (2147483647 : Int32))), .val (.int (p1 &&& (3 : Int32))), .unset, .unset, .unset, .unset] [(.int (p0 &&& (2147483647 : Int32))), (.int (399999 : Int32))])) _
      refine XS.iconst X0.here hx rfl (hb hby at_17) ?_
      show Steps p.tables e below (s₁.setTop (mkF m 18 #[.val (.int p0), .val (.int p1), .val (.int (p0 &&& (2147483647 : Int32))), .val (.int (p1 &&& (3 : Int32))), .unset, .unset, .unset, .unset] [(.int (3 : Int32)), (.int (p0 &&& (2147483647 : Int32))), (.int (399999 : Int32))])) _
      refine own_irem X0.here hx rfl (hb hby at_18) rfl (by decide) ?_
      show Steps p.tables e below (s₁.setTop (mkF m 19 #[.val (.int p0), .val (.int p1), .val (.int (p0 &&& (2147483647 : Int32))), .val (.int (p1 &&& (3 : Int32))), .unset, .unset, .unset, .unset] [(.int ((p0 &&& (2147483647 : Int32)) % (3 : Int32))), (.int (399999 : Int32))])) _
      refine XS.iadd X0.here hx rfl (hb hby at_19) rfl ?_
      show Steps p.tables e below (s₁.setTop (mkF m 20 #[.val (.int p0), .val (.int p1), .val (.int (p0 &&& (2147483647 : Int32))), .val (.int (p1 &&& (3 : Int32))), .unset, .unset, .unset, .unset] [(.int ((399999 : Int32) + ((p0 &&& (2147483647 : Int32)) % (3 : Int32))))])) _
      refine XS.istore X0.here hx rfl (hb hby at_20) rfl (l' := #[.val (.int p0), .val (.int p1), .val (.int (p0 &&& (2147483647 : Int32))), .val (.int (p1 &&& (3 : Int32))), .val (.int ((399999 : Int32) + ((p0 &&& (2147483647 : Int32)) % (3 : Int32)))), .unset, .unset, .unset]) rfl ?_
      show Steps p.tables e below (s₁.setTop (mkF m 22 #[.val (.int p0), .val (.int p1), .val (.int (p0 &&& (2147483647 : Int32))), .val (.int (p1 &&& (3 : Int32))), .val (.int ((399999 : Int32) + ((p0 &&& (2147483647 : Int32)) % (3 : Int32)))), .unset, .unset, .unset] [])) _
      refine XS.goto X0.here hx rfl (pc0 := 22) (pc' := 47) rfl (hb hby at_22) (by decide) (by decide) ?_
      exact kst2
    · have kst2 : Steps p.tables e below (s₁.setTop (mkF m 47 #[.val (.int p0), .val (.int p1), .val (.int (p0 &&& (2147483647 : Int32))), .val (.int (p1 &&& (3 : Int32))), .val (.int (if (p1 &&& (3 : Int32)) = (2 : Int32) then ((749999 : Int32) + ((p0 &&& (2147483647 : Int32)) % (3 : Int32))) else ((p0 &&& (2147483647 : Int32)) % (1000001 : Int32)))), .unset, .unset, .unset] [])) t := by simpa only [hz1_l4, if_neg hc11_1] using kst
      show Steps p.tables e below (s₁.setTop (mkF m 11 #[.val (.int p0), .val (.int p1), .val (.int (p0 &&& (2147483647 : Int32))), .val (.int (p1 &&& (3 : Int32))), .unset, .unset, .unset, .unset] [(.int (1 : Int32)), (.int (p1 &&& (3 : Int32)))])) _
      refine XS.icmpYes X0.here hx rfl (pc0 := 11) (pc' := 25) rfl (hb hby at_11) rfl (feq hc11_1).2 (by decide) (by decide) ?_
      show Steps p.tables e below (s₁.setTop (mkF m 25 #[.val (.int p0), .val (.int p1), .val (.int (p0 &&& (2147483647 : Int32))), .val (.int (p1 &&& (3 : Int32))), .unset, .unset, .unset, .unset] [])) _
      refine XS.iloadN X0.here hx rfl (hb hby at_25) rfl  ?_
      show Steps p.tables e below (s₁.setTop (mkF m 26 #[.val (.int p0), .val (.int p1), .val (.int (p0 &&& (2147483647 : Int32))), .val (.int (p1 &&& (3 : Int32))), .unset, .unset, .unset, .unset] [(.int (p1 &&& (3 : Int32)))])) _
      refine XS.iconst X0.here hx rfl (hb hby at_26) ?_
      show Steps p.tables e below (s₁.setTop (mkF m 27 #[.val (.int p0), .val (.int p1), .val (.int (p0 &&& (2147483647 : Int32))), .val (.int (p1 &&& (3 : Int32))), .unset, .unset, .unset, .unset] [(.int (2 : Int32)), (.int (p1 &&& (3 : Int32)))])) _
      have sm2 : ∀ t, Steps p.tables e below (s₁.setTop (mkF m 47 #[.val (.int p0), .val (.int p1), .val (.int (p0 &&& (2147483647 : Int32))), .val (.int (p1 &&& (3 : Int32))), .val (.int (if (p1 &&& (3 : Int32)) = (2 : Int32) then ((749999 : Int32) + ((p0 &&& (2147483647 : Int32)) % (3 : Int32))) else ((p0 &&& (2147483647 : Int32)) % (1000001 : Int32)))), .unset, .unset, .unset] [])) t → Steps p.tables e below (s₁.setTop (mkF m 27 #[.val (.int p0), .val (.int p1), .val (.int (p0 &&& (2147483647 : Int32))), .val (.int (p1 &&& (3 : Int32))), .unset, .unset, .unset, .unset] [(.int (2 : Int32)), (.int (p1 &&& (3 : Int32)))])) t := by
        intro t kst
        by_cases hc27_2 : (p1 &&& (3 : Int32)) = (2 : Int32)
        · have kst2 : Steps p.tables e below (s₁.setTop (mkF m 47 #[.val (.int p0), .val (.int p1), .val (.int (p0 &&& (2147483647 : Int32))), .val (.int (p1 &&& (3 : Int32))), .val (.int ((749999 : Int32) + ((p0 &&& (2147483647 : Int32)) % (3 : Int32)))), .unset, .unset, .unset] [])) t := by simpa only [if_pos hc27_2] using kst
          show Steps p.tables e below (s₁.setTop (mkF m 27 #[.val (.int p0), .val (.int p1), .val (.int (p0 &&& (2147483647 : Int32))), .val (.int (p1 &&& (3 : Int32))), .unset, .unset, .unset, .unset] [(.int (2 : Int32)), (.int (p1 &&& (3 : Int32)))])) _
          refine XS.icmpNo X0.here hx rfl (hb hby at_27) rfl (teq hc27_2).2 ?_
          show Steps p.tables e below (s₁.setTop (mkF m 30 #[.val (.int p0), .val (.int p1), .val (.int (p0 &&& (2147483647 : Int32))), .val (.int (p1 &&& (3 : Int32))), .unset, .unset, .unset, .unset] [])) _
          refine X0.ldcInt hx hown (mvT hZ (hw _ (List.mem_of_getElem? (i := 18) rfl))) (g := (mkF m 30 #[.val (.int p0), .val (.int p1), .val (.int (p0 &&& (2147483647 : Int32))), .val (.int (p1 &&& (3 : Int32))), .unset, .unset, .unset, .unset] [])) rfl (hb hby at_30) _ ?_
          show Steps p.tables e below (s₁.setTop (mkF m 32 #[.val (.int p0), .val (.int p1), .val (.int (p0 &&& (2147483647 : Int32))), .val (.int (p1 &&& (3 : Int32))), .unset, .unset, .unset, .unset] [(.int (749999 : Int32))])) _
          refine XS.iloadN X0.here hx rfl (hb hby at_32) rfl  ?_
          show Steps p.tables e below (s₁.setTop (mkF m 33 #[.val (.int p0), .val (.int p1), .val (.int (p0 &&& (2147483647 : Int32))), .val (.int (p1 &&& (3 : Int32))), .unset, .unset, .unset, .unset] [(.int (p0 &&& (2147483647 : Int32))), (.int (749999 : Int32))])) _
          refine XS.iconst X0.here hx rfl (hb hby at_33) ?_
          show Steps p.tables e below (s₁.setTop (mkF m 34 #[.val (.int p0), .val (.int p1), .val (.int (p0 &&& (2147483647 : Int32))), .val (.int (p1 &&& (3 : Int32))), .unset, .unset, .unset, .unset] [(.int (3 : Int32)), (.int (p0 &&& (2147483647 : Int32))), (.int (749999 : Int32))])) _
          refine own_irem X0.here hx rfl (hb hby at_34) rfl (by decide) ?_
          show Steps p.tables e below (s₁.setTop (mkF m 35 #[.val (.int p0), .val (.int p1), .val (.int (p0 &&& (2147483647 : Int32))), .val (.int (p1 &&& (3 : Int32))), .unset, .unset, .unset, .unset] [(.int ((p0 &&& (2147483647 : Int32)) % (3 : Int32))), (.int (749999 : Int32))])) _
          refine XS.iadd X0.here hx rfl (hb hby at_35) rfl ?_
          show Steps p.tables e below (s₁.setTop (mkF m 36 #[.val (.int p0), .val (.int p1), .val (.int (p0 &&& (2147483647 : Int32))), .val (.int (p1 &&& (3 : Int32))), .unset, .unset, .unset, .unset] [(.int ((749999 : Int32) + ((p0 &&& (2147483647 : Int32)) % (3 : Int32))))])) _
          refine XS.istore X0.here hx rfl (hb hby at_36) rfl (l' := #[.val (.int p0), .val (.int p1), .val (.int (p0 &&& (2147483647 : Int32))), .val (.int (p1 &&& (3 : Int32))), .val (.int ((749999 : Int32) + ((p0 &&& (2147483647 : Int32)) % (3 : Int32)))), .unset, .unset, .unset]) rfl ?_
          show Steps p.tables e below (s₁.setTop (mkF m 38 #[.val (.int p0), .val (.int p1), .val (.int (p0 &&& (2147483647 : Int32))), .val (.int (p1 &&& (3 : Int32))), .val (.int ((749999 : Int32) + ((p0 &&& (2147483647 : Int32)) % (3 : Int32)))), .unset, .unset, .unset] [])) _
          refine XS.goto X0.here hx rfl (pc0 := 38) (pc' := 47) rfl (hb hby at_38) (by decide) (by decide) ?_
          exact kst2
        · have kst2 : Steps p.tables e below (s₁.setTop (mkF m 47 #[.val (.int p0), .val (.int p1), .val (.int (p0 &&& (2147483647 : Int32))), .val (.int (p1 &&& (3 : Int32))), .val (.int ((p0 &&& (2147483647 : Int32)) % (1000001 : Int32))), .unset, .unset, .unset] [])) t := by simpa only [if_neg hc27_2] using kst
          show Steps p.tables e below (s₁.setTop (mkF m 27 #[.val (.int p0), .val (.int p1), .val (.int (p0 &&& (2147483647 : Int32))), .val (.int (p1 &&& (3 : Int32))), .unset, .unset, .unset, .unset] [(.int (2 : Int32)), (.int (p1 &&& (3 : Int32)))])) _
          refine XS.icmpYes X0.here hx rfl (pc0 := 27) (pc' := 41) rfl (hb hby at_27) rfl (feq hc27_2).2 (by decide) (by decide) ?_
          show Steps p.tables e below (s₁.setTop (mkF m 41 #[.val (.int p0), .val (.int p1), .val (.int (p0 &&& (2147483647 : Int32))), .val (.int (p1 &&& (3 : Int32))), .unset, .unset, .unset, .unset] [])) _
          refine XS.iloadN X0.here hx rfl (hb hby at_41) rfl  ?_
          show Steps p.tables e below (s₁.setTop (mkF m 42 #[.val (.int p0), .val (.int p1), .val (.int (p0 &&& (2147483647 : Int32))), .val (.int (p1 &&& (3 : Int32))), .unset, .unset, .unset, .unset] [(.int (p0 &&& (2147483647 : Int32)))])) _
          refine X0.ldcInt hx hown (mvT hZ (hw _ (List.mem_of_getElem? (i := 1) rfl))) (g := (mkF m 42 #[.val (.int p0), .val (.int p1), .val (.int (p0 &&& (2147483647 : Int32))), .val (.int (p1 &&& (3 : Int32))), .unset, .unset, .unset, .unset] [(.int (p0 &&& (2147483647 : Int32)))])) rfl (hb hby at_42) _ ?_
          show Steps p.tables e below (s₁.setTop (mkF m 44 #[.val (.int p0), .val (.int p1), .val (.int (p0 &&& (2147483647 : Int32))), .val (.int (p1 &&& (3 : Int32))), .unset, .unset, .unset, .unset] [(.int (1000001 : Int32)), (.int (p0 &&& (2147483647 : Int32)))])) _
          refine own_irem X0.here hx rfl (hb hby at_44) rfl (by decide) ?_
          show Steps p.tables e below (s₁.setTop (mkF m 45 #[.val (.int p0), .val (.int p1), .val (.int (p0 &&& (2147483647 : Int32))), .val (.int (p1 &&& (3 : Int32))), .unset, .unset, .unset, .unset] [(.int ((p0 &&& (2147483647 : Int32)) % (1000001 : Int32)))])) _
          refine XS.istore X0.here hx rfl (hb hby at_45) rfl (l' := #[.val (.int p0), .val (.int p1), .val (.int (p0 &&& (2147483647 : Int32))), .val (.int (p1 &&& (3 : Int32))), .val (.int ((p0 &&& (2147483647 : Int32)) % (1000001 : Int32))), .unset, .unset, .unset]) rfl ?_
          exact kst2
      refine sm2 _ ?_
      exact kst2
  refine Goes.go sm1 ?_
  have hk0 : 0 ≤ z1_l4.toInt := by rw [hz1_l4]; exact own_k0 p0 p1
  show Goes p e below s _ _ _ (s₁.setTop (mkF m 47 #[.val (.int p0), .val (.int p1), .val (.int (p0 &&& (2147483647 : Int32))), .val (.int (p1 &&& (3 : Int32))), .val (.int z1_l4), .unset, .unset, .unset] []))
  refine Goes.go (fun _ kst => XS.iload X0.here hx rfl (hb hby at_47) rfl  kst) ?_
  show Goes p e below s _ _ _ (s₁.setTop (mkF m 49 #[.val (.int p0), .val (.int p1), .val (.int (p0 &&& (2147483647 : Int32))), .val (.int (p1 &&& (3 : Int32))), .val (.int z1_l4), .unset, .unset, .unset] [(.int z1_l4)]))
  refine Goes.go (fun _ kst => own_i2d X0.here hx rfl (hb hby at_49) rfl kst) ?_
  show Goes p e below s _ _ _ (s₁.setTop (mkF m 50 #[.val (.int p0), .val (.int p1), .val (.int (p0 &&& (2147483647 : Int32))), .val (.int (p1 &&& (3 : Int32))), .val (.int z1_l4), .unset, .unset, .unset] [(.double (FP.i2d z1_l4))]))
  refine Goes.go (fun _ kst => X0.ldc2DoubleC hx hown (mvT hZ (hw _ (List.mem_of_getElem? (i := 2) rfl))) (g := (mkF m 50 #[.val (.int p0), .val (.int p1), .val (.int (p0 &&& (2147483647 : Int32))), .val (.int (p1 &&& (3 : Int32))), .val (.int z1_l4), .unset, .unset, .unset] [(.double (FP.i2d z1_l4))])) rfl (hb hby at_50) _ kst) ?_
  show Goes p e below s _ _ _ (s₁.setTop (mkF m 53 #[.val (.int p0), .val (.int p1), .val (.int (p0 &&& (2147483647 : Int32))), .val (.int (p1 &&& (3 : Int32))), .val (.int z1_l4), .unset, .unset, .unset] [(.double (4696837146684686336 : UInt64)), (.double (FP.i2d z1_l4))]))
  refine Goes.go (fun _ kst => own_ddiv X0.here hx rfl (hb hby at_53) rfl (own_q_bits _ hk0) kst) ?_
  show Goes p e below s _ _ _ (s₁.setTop (mkF m 54 #[.val (.int p0), .val (.int p1), .val (.int (p0 &&& (2147483647 : Int32))), .val (.int (p1 &&& (3 : Int32))), .val (.int z1_l4), .unset, .unset, .unset] [(.double (FP.ddiv (FP.i2d z1_l4) (4696837146684686336 : UInt64)))]))
  refine Goes.go (fun _ kst => own_dstore X0.here hx rfl (hb hby at_54) rfl (l' := #[.val (.int p0), .val (.int p1), .val (.int (p0 &&& (2147483647 : Int32))), .val (.int (p1 &&& (3 : Int32))), .val (.int z1_l4), .val (.double (FP.ddiv (FP.i2d z1_l4) (4696837146684686336 : UInt64))), .second, .unset]) rfl kst) ?_
  show Goes p e below s _ _ _ (s₁.setTop (mkF m 56 #[.val (.int p0), .val (.int p1), .val (.int (p0 &&& (2147483647 : Int32))), .val (.int (p1 &&& (3 : Int32))), .val (.int z1_l4), .val (.double (FP.ddiv (FP.i2d z1_l4) (4696837146684686336 : UInt64))), .second, .unset] []))
  refine Goes.go (fun _ kst => XS.iload X0.here hx rfl (hb hby at_56) rfl  kst) ?_
  show Goes p e below s _ _ _ (s₁.setTop (mkF m 58 #[.val (.int p0), .val (.int p1), .val (.int (p0 &&& (2147483647 : Int32))), .val (.int (p1 &&& (3 : Int32))), .val (.int z1_l4), .val (.double (FP.ddiv (FP.i2d z1_l4) (4696837146684686336 : UInt64))), .second, .unset] [(.int z1_l4)]))
  refine Goes.go (fun _ kst => X0.ldcInt hx hown (mvT hZ (hw _ (List.mem_of_getElem? (i := 3) rfl))) (g := (mkF m 58 #[.val (.int p0), .val (.int p1), .val (.int (p0 &&& (2147483647 : Int32))), .val (.int (p1 &&& (3 : Int32))), .val (.int z1_l4), .val (.double (FP.ddiv (FP.i2d z1_l4) (4696837146684686336 : UInt64))), .second, .unset] [(.int z1_l4)])) rfl (hb hby at_58) _ kst) ?_
  show Goes p e below s _ _ _ (s₁.setTop (mkF m 60 #[.val (.int p0), .val (.int p1), .val (.int (p0 &&& (2147483647 : Int32))), .val (.int (p1 &&& (3 : Int32))), .val (.int z1_l4), .val (.double (FP.ddiv (FP.i2d z1_l4) (4696837146684686336 : UInt64))), .second, .unset] [(.int (750000 : Int32)), (.int z1_l4)]))
  by_cases hc60_3 : z1_l4 < (750000 : Int32)
  · skip
    refine Goes.go (fun _ kst => XS.icmpYes X0.here hx rfl (pc0 := 60) (pc' := 71) rfl (hb hby at_60) rfl (tlt hc60_3).1 (by decide) (by decide) kst) ?_
    show Goes p e below s _ _ _ (s₁.setTop (mkF m 71 #[.val (.int p0), .val (.int p1), .val (.int (p0 &&& (2147483647 : Int32))), .val (.int (p1 &&& (3 : Int32))), .val (.int z1_l4), .val (.double (FP.ddiv (FP.i2d z1_l4) (4696837146684686336 : UInt64))), .second, .unset] []))
    refine Goes.go (fun _ kst => XS.iload X0.here hx rfl (hb hby at_71) rfl  kst) ?_
    show Goes p e below s _ _ _ (s₁.setTop (mkF m 73 #[.val (.int p0), .val (.int p1), .val (.int (p0 &&& (2147483647 : Int32))), .val (.int (p1 &&& (3 : Int32))), .val (.int z1_l4), .val (.double (FP.ddiv (FP.i2d z1_l4) (4696837146684686336 : UInt64))), .second, .unset] [(.int z1_l4)]))
    refine Goes.go (fun _ kst => X0.ldcInt hx hown (mvT hZ (hw _ (List.mem_of_getElem? (i := 4) rfl))) (g := (mkF m 73 #[.val (.int p0), .val (.int p1), .val (.int (p0 &&& (2147483647 : Int32))), .val (.int (p1 &&& (3 : Int32))), .val (.int z1_l4), .val (.double (FP.ddiv (FP.i2d z1_l4) (4696837146684686336 : UInt64))), .second, .unset] [(.int z1_l4)])) rfl (hb hby at_73) _ kst) ?_
    show Goes p e below s _ _ _ (s₁.setTop (mkF m 75 #[.val (.int p0), .val (.int p1), .val (.int (p0 &&& (2147483647 : Int32))), .val (.int (p1 &&& (3 : Int32))), .val (.int z1_l4), .val (.double (FP.ddiv (FP.i2d z1_l4) (4696837146684686336 : UInt64))), .second, .unset] [(.int (400000 : Int32)), (.int z1_l4)]))
    by_cases hc75_4 : z1_l4 < (400000 : Int32)
    · skip
      refine Goes.go (fun _ kst => XS.icmpYes X0.here hx rfl (pc0 := 75) (pc' := 86) rfl (hb hby at_75) rfl (tlt hc75_4).1 (by decide) (by decide) kst) ?_
      show Goes p e below s _ _ _ (s₁.setTop (mkF m 86 #[.val (.int p0), .val (.int p1), .val (.int (p0 &&& (2147483647 : Int32))), .val (.int (p1 &&& (3 : Int32))), .val (.int z1_l4), .val (.double (FP.ddiv (FP.i2d z1_l4) (4696837146684686336 : UInt64))), .second, .unset] []))
      obtain ⟨T5, X5, e5, st5⟩ := getS2 X0 hx hZ hown (host := "") (Or.inl (hw _ (List.mem_of_getElem? (i := 5) rfl))) Via.refl e0 S_NONE (g := (mkF m 86 #[.val (.int p0), .val (.int p1), .val (.int (p0 &&& (2147483647 : Int32))), .val (.int (p1 &&& (3 : Int32))), .val (.int z1_l4), .val (.double (FP.ddiv (FP.i2d z1_l4) (4696837146684686336 : UInt64))), .second, .unset] [])) rfl (hb hby at_86)
      refine Goes.go st5 ?_
      show Goes p e below s _ _ _ (T5.setTop (mkF m 89 #[.val (.int p0), .val (.int p1), .val (.int (p0 &&& (2147483647 : Int32))), .val (.int (p1 &&& (3 : Int32))), .val (.int z1_l4), .val (.double (FP.ddiv (FP.i2d z1_l4) (4696837146684686336 : UInt64))), .second, .unset] [(.ref vn)]))
      refine Goes.go (fun _ kst => XS.astore X5.here hx rfl (hb hby at_89) rfl rfl (l' := #[.val (.int p0), .val (.int p1), .val (.int (p0 &&& (2147483647 : Int32))), .val (.int (p1 &&& (3 : Int32))), .val (.int z1_l4), .val (.double (FP.ddiv (FP.i2d z1_l4) (4696837146684686336 : UInt64))), .second, .val (.ref vn)]) rfl kst) ?_
      show Goes p e below s _ _ _ (T5.setTop (mkF m 91 #[.val (.int p0), .val (.int p1), .val (.int (p0 &&& (2147483647 : Int32))), .val (.int (p1 &&& (3 : Int32))), .val (.int z1_l4), .val (.double (FP.ddiv (FP.i2d z1_l4) (4696837146684686336 : UInt64))), .second, .val (.ref vn)] []))
      refine Goes.go (fun _ kst => own_dload X5.here hx rfl (hb hby at_91) rfl kst) ?_
      show Goes p e below s _ _ _ (T5.setTop (mkF m 93 #[.val (.int p0), .val (.int p1), .val (.int (p0 &&& (2147483647 : Int32))), .val (.int (p1 &&& (3 : Int32))), .val (.int z1_l4), .val (.double (FP.ddiv (FP.i2d z1_l4) (4696837146684686336 : UInt64))), .second, .val (.ref vn)] [(.double (FP.ddiv (FP.i2d z1_l4) (4696837146684686336 : UInt64)))]))
      obtain ⟨_, _, ⟨T6, L6, k6, n6⟩, -, X6, ⟨Lc6, hQ6, l6, y6, z6⟩, st6⟩ := Jvm.LawKit.callS X5 hx (y := (⟨"com/example/brisk_sieve/brisksieve/overlap/Verdict", "of", "(D)Lcom/example/brisk_sieve/brisksieve/overlap/Verdict;"⟩ : MethodName)) hown (mvT hZ (hw _ (List.mem_of_getElem? (i := 8) rfl))) (mvT hZ (hw _ (List.mem_of_getElem? (i := 9) rfl))) (mvT hZ (hw _ (List.mem_of_getElem? (i := 6) rfl))) (mvT hZ (hw _ (List.mem_of_getElem? (i := 10) rfl))) (by decide) (backOf (W := 0) (rm1 l Z a0 hw [] (FP.ddiv (FP.i2d z1_l4) (4696837146684686336 : UInt64)) vs vp vn h0 n0 Z0 S_SUSPECTED S_POSSIBLE S_NONE) hZ (hw _ (List.mem_of_getElem? (i := 10) rfl)) (hw _ (List.mem_of_getElem? (i := 6) rfl)) (by decide) (by decide)) (g := (mkF m 93 #[.val (.int p0), .val (.int p1), .val (.int (p0 &&& (2147483647 : Int32))), .val (.int (p1 &&& (3 : Int32))), .val (.int z1_l4), .val (.double (FP.ddiv (FP.i2d z1_l4) (4696837146684686336 : UInt64))), .second, .val (.ref vn)] [(.double (FP.ddiv (FP.i2d z1_l4) (4696837146684686336 : UInt64)))])) rfl (by rw [hml]; rfl) (argsL := [(.double (FP.ddiv (FP.i2d z1_l4) (4696837146684686336 : UInt64)))]) (rest := []) (lenOf pd_0 rfl) rfl (by show 2 * 0 + _ ≤ _; exact Nat.le_of_eq rfl) (hb hby at_93) (fun _ _ => ⟨rfl, e5, (by decide : 0 + 0 ≤ _), (by decide : 0 + 0 ≤ _)⟩)
      dsimp only [Pt.U, Pt.locs, Pt.cells, Pt.slots] at X6 l6 y6 z6 st6 hQ6
      subst l6 y6 z6
      obtain ⟨h6, e6⟩ : ∃ z, T6.heap = z := ⟨_, rfl⟩
      rw [e6] at hQ6
      obtain ⟨rfl, N6q, Kq6, -⟩ := hQ6
      have N6 := Fr.app N0 N6q
      have K6 := Keep.trans K0 Kq6 all0
      have Z6 := Nat.le_trans Z0 Kq6.1
      refine Goes.go st6 ?_
      rw [show (g_rm1_r (FP.ddiv (FP.i2d z1_l4) (4696837146684686336 : UInt64)) vs vp vn) = vn from own_rn z1_l4 hk0 vs vp vn hc60_3 hc75_4]
      show Goes p e below s _ _ _ (T6.setTop (mkF m 96 #[.val (.int p0), .val (.int p1), .val (.int (p0 &&& (2147483647 : Int32))), .val (.int (p1 &&& (3 : Int32))), .val (.int z1_l4), .val (.double (FP.ddiv (FP.i2d z1_l4) (4696837146684686336 : UInt64))), .second, .val (.ref vn)] [(.ref vn)]))
      refine Goes.go (fun _ kst => XS.aload X6.here hx rfl (hb hby at_96) rfl rfl  kst) ?_
      show Goes p e below s _ _ _ (T6.setTop (mkF m 98 #[.val (.int p0), .val (.int p1), .val (.int (p0 &&& (2147483647 : Int32))), .val (.int (p1 &&& (3 : Int32))), .val (.int z1_l4), .val (.double (FP.ddiv (FP.i2d z1_l4) (4696837146684686336 : UInt64))), .second, .val (.ref vn)] [(.ref vn), (.ref vn)]))
      refine Goes.go (fun _ kst => Jvm.RoadKit.acmp (g := (mkF m 98 #[.val (.int p0), .val (.int p1), .val (.int (p0 &&& (2147483647 : Int32))), .val (.int (p1 &&& (3 : Int32))), .val (.int z1_l4), .val (.double (FP.ddiv (FP.i2d z1_l4) (4696837146684686336 : UInt64))), .second, .val (.ref vn)] [(.ref vn), (.ref vn)])) X6 hx rfl rfl rfl (pc0 := 98) (pc' := 101) (same := true) rfl (hb hby at_98) rfl (decide_eq_true rfl) (by decide) (by decide) kst) ?_
      show Goes p e below s _ _ _ (T6.setTop (mkF m 101 #[.val (.int p0), .val (.int p1), .val (.int (p0 &&& (2147483647 : Int32))), .val (.int (p1 &&& (3 : Int32))), .val (.int z1_l4), .val (.double (FP.ddiv (FP.i2d z1_l4) (4696837146684686336 : UInt64))), .second, .val (.ref vn)] []))
      refine Goes.go (fun _ kst => XS.iconst X6.here hx rfl (hb hby at_101) kst) ?_
      show Goes p e below s _ _ _ (T6.setTop (mkF m 102 #[.val (.int p0), .val (.int p1), .val (.int (p0 &&& (2147483647 : Int32))), .val (.int (p1 &&& (3 : Int32))), .val (.int z1_l4), .val (.double (FP.ddiv (FP.i2d z1_l4) (4696837146684686336 : UInt64))), .second, .val (.ref vn)] [(.int (1 : Int32))]))
      refine Goes.go (fun _ kst => XS.goto X6.here hx rfl (pc0 := 102) (pc' := 106) rfl (hb hby at_102) (by decide) (by decide) kst) ?_
      show Goes p e below s _ _ _ (T6.setTop (mkF m 106 #[.val (.int p0), .val (.int p1), .val (.int (p0 &&& (2147483647 : Int32))), .val (.int (p1 &&& (3 : Int32))), .val (.int z1_l4), .val (.double (FP.ddiv (FP.i2d z1_l4) (4696837146684686336 : UInt64))), .second, .val (.ref vn)] [(.int (1 : Int32))]))
      refine Goes.retN .boolean X6 hx hlk Bd.returns (by simp) (hb hby at_106) ?_ (by decide) (by decide)
      exact ⟨rfl, N6⟩
    · skip
      refine Goes.go (fun _ kst => XS.icmpNo X0.here hx rfl (hb hby at_75) rfl (flt hc75_4).1 kst) ?_
      show Goes p e below s _ _ _ (s₁.setTop (mkF m 78 #[.val (.int p0), .val (.int p1), .val (.int (p0 &&& (2147483647 : Int32))), .val (.int (p1 &&& (3 : Int32))), .val (.int z1_l4), .val (.double (FP.ddiv (FP.i2d z1_l4) (4696837146684686336 : UInt64))), .second, .unset] []))
      obtain ⟨T8, X8, e8, st8⟩ := getS2 X0 hx hZ hown (host := "") (Or.inl (hw _ (List.mem_of_getElem? (i := 15) rfl))) Via.refl e0 S_POSSIBLE (g := (mkF m 78 #[.val (.int p0), .val (.int p1), .val (.int (p0 &&& (2147483647 : Int32))), .val (.int (p1 &&& (3 : Int32))), .val (.int z1_l4), .val (.double (FP.ddiv (FP.i2d z1_l4) (4696837146684686336 : UInt64))), .second, .unset] [])) rfl (hb hby at_78)
      refine Goes.go st8 ?_
      show Goes p e below s _ _ _ (T8.setTop (mkF m 81 #[.val (.int p0), .val (.int p1), .val (.int (p0 &&& (2147483647 : Int32))), .val (.int (p1 &&& (3 : Int32))), .val (.int z1_l4), .val (.double (FP.ddiv (FP.i2d z1_l4) (4696837146684686336 : UInt64))), .second, .unset] [(.ref vp)]))
      refine Goes.go (fun _ kst => XS.astore X8.here hx rfl (hb hby at_81) rfl rfl (l' := #[.val (.int p0), .val (.int p1), .val (.int (p0 &&& (2147483647 : Int32))), .val (.int (p1 &&& (3 : Int32))), .val (.int z1_l4), .val (.double (FP.ddiv (FP.i2d z1_l4) (4696837146684686336 : UInt64))), .second, .val (.ref vp)]) rfl kst) ?_
      show Goes p e below s _ _ _ (T8.setTop (mkF m 83 #[.val (.int p0), .val (.int p1), .val (.int (p0 &&& (2147483647 : Int32))), .val (.int (p1 &&& (3 : Int32))), .val (.int z1_l4), .val (.double (FP.ddiv (FP.i2d z1_l4) (4696837146684686336 : UInt64))), .second, .val (.ref vp)] []))
      refine Goes.go (fun _ kst => XS.goto X8.here hx rfl (pc0 := 83) (pc' := 91) rfl (hb hby at_83) (by decide) (by decide) kst) ?_
      show Goes p e below s _ _ _ (T8.setTop (mkF m 91 #[.val (.int p0), .val (.int p1), .val (.int (p0 &&& (2147483647 : Int32))), .val (.int (p1 &&& (3 : Int32))), .val (.int z1_l4), .val (.double (FP.ddiv (FP.i2d z1_l4) (4696837146684686336 : UInt64))), .second, .val (.ref vp)] []))
      refine Goes.go (fun _ kst => own_dload X8.here hx rfl (hb hby at_91) rfl kst) ?_
      show Goes p e below s _ _ _ (T8.setTop (mkF m 93 #[.val (.int p0), .val (.int p1), .val (.int (p0 &&& (2147483647 : Int32))), .val (.int (p1 &&& (3 : Int32))), .val (.int z1_l4), .val (.double (FP.ddiv (FP.i2d z1_l4) (4696837146684686336 : UInt64))), .second, .val (.ref vp)] [(.double (FP.ddiv (FP.i2d z1_l4) (4696837146684686336 : UInt64)))]))
      obtain ⟨_, _, ⟨T9, L9, k9, n9⟩, -, X9, ⟨Lc9, hQ9, l9, y9, z9⟩, st9⟩ := Jvm.LawKit.callS X8 hx (y := (⟨"com/example/brisk_sieve/brisksieve/overlap/Verdict", "of", "(D)Lcom/example/brisk_sieve/brisksieve/overlap/Verdict;"⟩ : MethodName)) hown (mvT hZ (hw _ (List.mem_of_getElem? (i := 8) rfl))) (mvT hZ (hw _ (List.mem_of_getElem? (i := 9) rfl))) (mvT hZ (hw _ (List.mem_of_getElem? (i := 6) rfl))) (mvT hZ (hw _ (List.mem_of_getElem? (i := 10) rfl))) (by decide) (backOf (W := 0) (rm1 l Z a0 hw [] (FP.ddiv (FP.i2d z1_l4) (4696837146684686336 : UInt64)) vs vp vn h0 n0 Z0 S_SUSPECTED S_POSSIBLE S_NONE) hZ (hw _ (List.mem_of_getElem? (i := 10) rfl)) (hw _ (List.mem_of_getElem? (i := 6) rfl)) (by decide) (by decide)) (g := (mkF m 93 #[.val (.int p0), .val (.int p1), .val (.int (p0 &&& (2147483647 : Int32))), .val (.int (p1 &&& (3 : Int32))), .val (.int z1_l4), .val (.double (FP.ddiv (FP.i2d z1_l4) (4696837146684686336 : UInt64))), .second, .val (.ref vp)] [(.double (FP.ddiv (FP.i2d z1_l4) (4696837146684686336 : UInt64)))])) rfl (by rw [hml]; rfl) (argsL := [(.double (FP.ddiv (FP.i2d z1_l4) (4696837146684686336 : UInt64)))]) (rest := []) (lenOf pd_0 rfl) rfl (by show 2 * 0 + _ ≤ _; exact Nat.le_of_eq rfl) (hb hby at_93) (fun _ _ => ⟨rfl, e8, (by decide : 0 + 0 ≤ _), (by decide : 0 + 0 ≤ _)⟩)
      dsimp only [Pt.U, Pt.locs, Pt.cells, Pt.slots] at X9 l9 y9 z9 st9 hQ9
      subst l9 y9 z9
      obtain ⟨h9, e9⟩ : ∃ z, T9.heap = z := ⟨_, rfl⟩
      rw [e9] at hQ9
      obtain ⟨rfl, N9q, Kq9, -⟩ := hQ9
      have N9 := Fr.app N0 N9q
      have K9 := Keep.trans K0 Kq9 all0
      have Z9 := Nat.le_trans Z0 Kq9.1
      refine Goes.go st9 ?_
      rw [show (g_rm1_r (FP.ddiv (FP.i2d z1_l4) (4696837146684686336 : UInt64)) vs vp vn) = vp from own_rp z1_l4 hk0 vs vp vn hc60_3 hc75_4]
      show Goes p e below s _ _ _ (T9.setTop (mkF m 96 #[.val (.int p0), .val (.int p1), .val (.int (p0 &&& (2147483647 : Int32))), .val (.int (p1 &&& (3 : Int32))), .val (.int z1_l4), .val (.double (FP.ddiv (FP.i2d z1_l4) (4696837146684686336 : UInt64))), .second, .val (.ref vp)] [(.ref vp)]))
      refine Goes.go (fun _ kst => XS.aload X9.here hx rfl (hb hby at_96) rfl rfl  kst) ?_
      show Goes p e below s _ _ _ (T9.setTop (mkF m 98 #[.val (.int p0), .val (.int p1), .val (.int (p0 &&& (2147483647 : Int32))), .val (.int (p1 &&& (3 : Int32))), .val (.int z1_l4), .val (.double (FP.ddiv (FP.i2d z1_l4) (4696837146684686336 : UInt64))), .second, .val (.ref vp)] [(.ref vp), (.ref vp)]))
      refine Goes.go (fun _ kst => Jvm.RoadKit.acmp (g := (mkF m 98 #[.val (.int p0), .val (.int p1), .val (.int (p0 &&& (2147483647 : Int32))), .val (.int (p1 &&& (3 : Int32))), .val (.int z1_l4), .val (.double (FP.ddiv (FP.i2d z1_l4) (4696837146684686336 : UInt64))), .second, .val (.ref vp)] [(.ref vp), (.ref vp)])) X9 hx rfl rfl rfl (pc0 := 98) (pc' := 101) (same := true) rfl (hb hby at_98) rfl (decide_eq_true rfl) (by decide) (by decide) kst) ?_
      show Goes p e below s _ _ _ (T9.setTop (mkF m 101 #[.val (.int p0), .val (.int p1), .val (.int (p0 &&& (2147483647 : Int32))), .val (.int (p1 &&& (3 : Int32))), .val (.int z1_l4), .val (.double (FP.ddiv (FP.i2d z1_l4) (4696837146684686336 : UInt64))), .second, .val (.ref vp)] []))
      refine Goes.go (fun _ kst => XS.iconst X9.here hx rfl (hb hby at_101) kst) ?_
      show Goes p e below s _ _ _ (T9.setTop (mkF m 102 #[.val (.int p0), .val (.int p1), .val (.int (p0 &&& (2147483647 : Int32))), .val (.int (p1 &&& (3 : Int32))), .val (.int z1_l4), .val (.double (FP.ddiv (FP.i2d z1_l4) (4696837146684686336 : UInt64))), .second, .val (.ref vp)] [(.int (1 : Int32))]))
      refine Goes.go (fun _ kst => XS.goto X9.here hx rfl (pc0 := 102) (pc' := 106) rfl (hb hby at_102) (by decide) (by decide) kst) ?_
      show Goes p e below s _ _ _ (T9.setTop (mkF m 106 #[.val (.int p0), .val (.int p1), .val (.int (p0 &&& (2147483647 : Int32))), .val (.int (p1 &&& (3 : Int32))), .val (.int z1_l4), .val (.double (FP.ddiv (FP.i2d z1_l4) (4696837146684686336 : UInt64))), .second, .val (.ref vp)] [(.int (1 : Int32))]))
      refine Goes.retN .boolean X9 hx hlk Bd.returns (by simp) (hb hby at_106) ?_ (by decide) (by decide)
      exact ⟨rfl, N9⟩
  · skip
    refine Goes.go (fun _ kst => XS.icmpNo X0.here hx rfl (hb hby at_60) rfl (flt hc60_3).1 kst) ?_
    show Goes p e below s _ _ _ (s₁.setTop (mkF m 63 #[.val (.int p0), .val (.int p1), .val (.int (p0 &&& (2147483647 : Int32))), .val (.int (p1 &&& (3 : Int32))), .val (.int z1_l4), .val (.double (FP.ddiv (FP.i2d z1_l4) (4696837146684686336 : UInt64))), .second, .unset] []))
    obtain ⟨T11, X11, e11, st11⟩ := getS2 X0 hx hZ hown (host := "") (Or.inl (hw _ (List.mem_of_getElem? (i := 19) rfl))) Via.refl e0 S_SUSPECTED (g := (mkF m 63 #[.val (.int p0), .val (.int p1), .val (.int (p0 &&& (2147483647 : Int32))), .val (.int (p1 &&& (3 : Int32))), .val (.int z1_l4), .val (.double (FP.ddiv (FP.i2d z1_l4) (4696837146684686336 : UInt64))), .second, .unset] [])) rfl (hb hby at_63)
    refine Goes.go st11 ?_
    show Goes p e below s _ _ _ (T11.setTop (mkF m 66 #[.val (.int p0), .val (.int p1), .val (.int (p0 &&& (2147483647 : Int32))), .val (.int (p1 &&& (3 : Int32))), .val (.int z1_l4), .val (.double (FP.ddiv (FP.i2d z1_l4) (4696837146684686336 : UInt64))), .second, .unset] [(.ref vs)]))
    refine Goes.go (fun _ kst => XS.astore X11.here hx rfl (hb hby at_66) rfl rfl (l' := #[.val (.int p0), .val (.int p1), .val (.int (p0 &&& (2147483647 : Int32))), .val (.int (p1 &&& (3 : Int32))), .val (.int z1_l4), .val (.double (FP.ddiv (FP.i2d z1_l4) (4696837146684686336 : UInt64))), .second, .val (.ref vs)]) rfl kst) ?_
    show Goes p e below s _ _ _ (T11.setTop (mkF m 68 #[.val (.int p0), .val (.int p1), .val (.int (p0 &&& (2147483647 : Int32))), .val (.int (p1 &&& (3 : Int32))), .val (.int z1_l4), .val (.double (FP.ddiv (FP.i2d z1_l4) (4696837146684686336 : UInt64))), .second, .val (.ref vs)] []))
    refine Goes.go (fun _ kst => XS.goto X11.here hx rfl (pc0 := 68) (pc' := 91) rfl (hb hby at_68) (by decide) (by decide) kst) ?_
    show Goes p e below s _ _ _ (T11.setTop (mkF m 91 #[.val (.int p0), .val (.int p1), .val (.int (p0 &&& (2147483647 : Int32))), .val (.int (p1 &&& (3 : Int32))), .val (.int z1_l4), .val (.double (FP.ddiv (FP.i2d z1_l4) (4696837146684686336 : UInt64))), .second, .val (.ref vs)] []))
    refine Goes.go (fun _ kst => own_dload X11.here hx rfl (hb hby at_91) rfl kst) ?_
    show Goes p e below s _ _ _ (T11.setTop (mkF m 93 #[.val (.int p0), .val (.int p1), .val (.int (p0 &&& (2147483647 : Int32))), .val (.int (p1 &&& (3 : Int32))), .val (.int z1_l4), .val (.double (FP.ddiv (FP.i2d z1_l4) (4696837146684686336 : UInt64))), .second, .val (.ref vs)] [(.double (FP.ddiv (FP.i2d z1_l4) (4696837146684686336 : UInt64)))]))
    obtain ⟨_, _, ⟨T12, L12, k12, n12⟩, -, X12, ⟨Lc12, hQ12, l12, y12, z12⟩, st12⟩ := Jvm.LawKit.callS X11 hx (y := (⟨"com/example/brisk_sieve/brisksieve/overlap/Verdict", "of", "(D)Lcom/example/brisk_sieve/brisksieve/overlap/Verdict;"⟩ : MethodName)) hown (mvT hZ (hw _ (List.mem_of_getElem? (i := 8) rfl))) (mvT hZ (hw _ (List.mem_of_getElem? (i := 9) rfl))) (mvT hZ (hw _ (List.mem_of_getElem? (i := 6) rfl))) (mvT hZ (hw _ (List.mem_of_getElem? (i := 10) rfl))) (by decide) (backOf (W := 0) (rm1 l Z a0 hw [] (FP.ddiv (FP.i2d z1_l4) (4696837146684686336 : UInt64)) vs vp vn h0 n0 Z0 S_SUSPECTED S_POSSIBLE S_NONE) hZ (hw _ (List.mem_of_getElem? (i := 10) rfl)) (hw _ (List.mem_of_getElem? (i := 6) rfl)) (by decide) (by decide)) (g := (mkF m 93 #[.val (.int p0), .val (.int p1), .val (.int (p0 &&& (2147483647 : Int32))), .val (.int (p1 &&& (3 : Int32))), .val (.int z1_l4), .val (.double (FP.ddiv (FP.i2d z1_l4) (4696837146684686336 : UInt64))), .second, .val (.ref vs)] [(.double (FP.ddiv (FP.i2d z1_l4) (4696837146684686336 : UInt64)))])) rfl (by rw [hml]; rfl) (argsL := [(.double (FP.ddiv (FP.i2d z1_l4) (4696837146684686336 : UInt64)))]) (rest := []) (lenOf pd_0 rfl) rfl (by show 2 * 0 + _ ≤ _; exact Nat.le_of_eq rfl) (hb hby at_93) (fun _ _ => ⟨rfl, e11, (by decide : 0 + 0 ≤ _), (by decide : 0 + 0 ≤ _)⟩)
    dsimp only [Pt.U, Pt.locs, Pt.cells, Pt.slots] at X12 l12 y12 z12 st12 hQ12
    subst l12 y12 z12
    obtain ⟨h12, e12⟩ : ∃ z, T12.heap = z := ⟨_, rfl⟩
    rw [e12] at hQ12
    obtain ⟨rfl, N12q, Kq12, -⟩ := hQ12
    have N12 := Fr.app N0 N12q
    have K12 := Keep.trans K0 Kq12 all0
    have Z12 := Nat.le_trans Z0 Kq12.1
    refine Goes.go st12 ?_
    rw [show (g_rm1_r (FP.ddiv (FP.i2d z1_l4) (4696837146684686336 : UInt64)) vs vp vn) = vs from own_rs z1_l4 hk0 vs vp vn hc60_3]
    show Goes p e below s _ _ _ (T12.setTop (mkF m 96 #[.val (.int p0), .val (.int p1), .val (.int (p0 &&& (2147483647 : Int32))), .val (.int (p1 &&& (3 : Int32))), .val (.int z1_l4), .val (.double (FP.ddiv (FP.i2d z1_l4) (4696837146684686336 : UInt64))), .second, .val (.ref vs)] [(.ref vs)]))
    refine Goes.go (fun _ kst => XS.aload X12.here hx rfl (hb hby at_96) rfl rfl  kst) ?_
    show Goes p e below s _ _ _ (T12.setTop (mkF m 98 #[.val (.int p0), .val (.int p1), .val (.int (p0 &&& (2147483647 : Int32))), .val (.int (p1 &&& (3 : Int32))), .val (.int z1_l4), .val (.double (FP.ddiv (FP.i2d z1_l4) (4696837146684686336 : UInt64))), .second, .val (.ref vs)] [(.ref vs), (.ref vs)]))
    refine Goes.go (fun _ kst => Jvm.RoadKit.acmp (g := (mkF m 98 #[.val (.int p0), .val (.int p1), .val (.int (p0 &&& (2147483647 : Int32))), .val (.int (p1 &&& (3 : Int32))), .val (.int z1_l4), .val (.double (FP.ddiv (FP.i2d z1_l4) (4696837146684686336 : UInt64))), .second, .val (.ref vs)] [(.ref vs), (.ref vs)])) X12 hx rfl rfl rfl (pc0 := 98) (pc' := 101) (same := true) rfl (hb hby at_98) rfl (decide_eq_true rfl) (by decide) (by decide) kst) ?_
    show Goes p e below s _ _ _ (T12.setTop (mkF m 101 #[.val (.int p0), .val (.int p1), .val (.int (p0 &&& (2147483647 : Int32))), .val (.int (p1 &&& (3 : Int32))), .val (.int z1_l4), .val (.double (FP.ddiv (FP.i2d z1_l4) (4696837146684686336 : UInt64))), .second, .val (.ref vs)] []))
    refine Goes.go (fun _ kst => XS.iconst X12.here hx rfl (hb hby at_101) kst) ?_
    show Goes p e below s _ _ _ (T12.setTop (mkF m 102 #[.val (.int p0), .val (.int p1), .val (.int (p0 &&& (2147483647 : Int32))), .val (.int (p1 &&& (3 : Int32))), .val (.int z1_l4), .val (.double (FP.ddiv (FP.i2d z1_l4) (4696837146684686336 : UInt64))), .second, .val (.ref vs)] [(.int (1 : Int32))]))
    refine Goes.go (fun _ kst => XS.goto X12.here hx rfl (pc0 := 102) (pc' := 106) rfl (hb hby at_102) (by decide) (by decide) kst) ?_
    show Goes p e below s _ _ _ (T12.setTop (mkF m 106 #[.val (.int p0), .val (.int p1), .val (.int (p0 &&& (2147483647 : Int32))), .val (.int (p1 &&& (3 : Int32))), .val (.int z1_l4), .val (.double (FP.ddiv (FP.i2d z1_l4) (4696837146684686336 : UInt64))), .second, .val (.ref vs)] [(.int (1 : Int32))]))
    refine Goes.retN .boolean X12 hx hlk Bd.returns (by simp) (hb hby at_106) ?_ (by decide) (by decide)
    exact ⟨rfl, N12⟩
set_option maxRecDepth 65536 in
set_option maxHeartbeats 40000000 in
theorem comes_1 {Post : Tables → Env → Array Value → State → Outcome → State → Prop} (hpost : ∀ tb e args s v u, (limb_1_1.after args s (.returned v) u = true ∧ limb_1_2.after args s (.returned v) u = true ∧ True) → FrameEnd s (.returned v) u (Jvm.fieldLocs frame_1_writes args s ++ Jvm.arrayLocs frame_1_arrays args s ++ Jvm.staticLocs frame_1_statics s) 0 0 → Post tb e args s (.returned v) u) :
    ArmFor flags0 classFile x code maxLocals ret World_1 tables_1 room_1 Calls_1 rest_1 Pre_1 Post := by
  intro l hfl _ _ p e ha hc hk s m args below hf hA hF happ hP
  obtain ⟨hcalls, hrest, hpre⟩ := hP
  obtain ⟨-, -, -, hnamed, -, -, -, hat⟩ := (Spec.applies_iff hf).mp happ
  obtain ⟨hg, hn⟩ := and_e (Cond.before_iff.mp (show (Jvm.Cond.and given_1 narrow_1).before args s = true from hpre))
  obtain ⟨gc, gr0⟩ := and_e hg
  obtain ⟨w0, w1, rfl⟩ : ∃ w0 w1 : Value, args = #[w0, w1] := by
    have hs : args.size = 2 := by simpa [Cond.value, given_1] using gc
    obtain ⟨L⟩ := args
    match L, hs with
    | [w0, w1], _ => exact ⟨w0, w1, rfl⟩
  have hw := fun d (hd : d ∈ tables_1) => atoms_spec (ws := Jvm.Cond.code x code maxLocals ret :: tables_1) hat d (List.mem_cons_of_mem _ hd)
  have hfit : Fit s := fun {y c} hc i hi => by
    obtain ⟨ha, rfl⟩ := Array.getElem?_eq_some_iff.mp hc
    have q := List.all_eq_true.mp ((Array.all_eq_true_iff_forall_mem.mp hF) _ (Array.getElem_mem ha)) i (List.mem_range.mpr hi)
    simpa [Array.getElem?_eq_getElem hi] using q
  obtain ⟨ga0, gr1⟩ := and_e gr0
  obtain ⟨i0, ei0⟩ := is_v ga0
  obtain rfl : w0 = (.int i0) := Option.some.inj ei0
  obtain ⟨i1, ei1⟩ := is_v gr1
  obtain rfl : w1 = (.int i1) := Option.some.inj ei1
  obtain ⟨x0, y0⟩ := and_e hn
  obtain ⟨x1, x2⟩ := and_e y0
  obtain ⟨vn, -, S_NONE, -⟩ := own_sta x0 (hw _ (List.mem_of_getElem? (i := 6) rfl)) (hw _ (List.mem_of_getElem? (i := 7) rfl))
  obtain ⟨vp, -, S_POSSIBLE, -⟩ := own_sta x1 (hw _ (List.mem_of_getElem? (i := 6) rfl)) (hw _ (List.mem_of_getElem? (i := 16) rfl))
  obtain ⟨vs, -, S_SUSPECTED, -⟩ := own_sta x2 (hw _ (List.mem_of_getElem? (i := 6) rfl)) (hw _ (List.mem_of_getElem? (i := 20) rfl))
  obtain ⟨n, o, h1, h2, h3, _, L, rfl, ⟨rfl, N⟩, hq⟩ := rm0 l s _ hw tables_1 i0 i1 vs vp vn s.heap s.heap.size (Nat.le_refl _) S_SUSPECTED S_POSSIBLE S_NONE p e ha hc hk s m _ below hf ((Spec.applies_iff_loose hf).mp happ).1 ⟨rfl, State.Warmed39.refl s, rfl⟩ trivial
  refine ⟨n, _, h1, h2, h3, hpost _ _ _ _ _ _ ⟨Cond.after_iff.mpr rfl, Cond.after_iff.mpr (eq_i res_at (Term.int_eval (1)) rfl), trivial⟩ ⟨hq.1, hq.2.1, (hq.2.2.sift fun y hy => Or.inr (N y hy)).mono (by decide) (by decide)⟩⟩
theorem main_1_1 : Claimed_1_1 := comes_1 fun _ _ _ _ _ _ h hF => ⟨h.1, hF⟩
theorem main_1_2 : Claimed_1_2 := comes_1 fun _ _ _ _ _ _ h hF => ⟨h.2.1, hF⟩
end Jvm.Pilot.@@N@@
namespace Jvm.Pilot.@@N@@
open Jvm Jvm.ClassFile Sem Op Lib Jvm.Free Jvm.Stand Jvm.Pilot.@@N@@.Jvm.D
/-! MADE BY PROGRAM (witnessworld.py) out of the Statement's table words and the real class files: 12 classes; the members and pool entries that the words name. The judged class is class 1, her method 1. -/
namespace start1
open Jvm.ClassFile
def u (s : String) : CpInfo := .utf8 (stringToUtf16 s)
/-- a pool by its gaps: so many unusable entries, then the entry; so many at the end -/
def gap : Nat → List CpInfo → List CpInfo
  | 0, r => r
  | n + 1, r => .unusable :: gap n r
def poolList (es : List (Nat × CpInfo)) (last : Nat) : List CpInfo := es.foldr (fun e r => gap e.1 (e.2 :: r)) (gap last [])
def pool (es : List (Nat × CpInfo)) (last : Nat) : Array CpInfo := ⟨poolList es last⟩
def fileOf (pool : Array CpInfo) (this : Nat) (attrs : Array Attribute := #[]) (ms : Array MethodInfo := #[]) (fl : Nat := 33) (sup : Nat := 0) (ifs : Array Nat := #[]) (fds : Array FieldInfo := #[]) : ClassFile where
  minorVersion := 0
  majorVersion := 65
  constantPool := pool
  accessFlags := fl
  thisClass := this
  superClass := sup
  interfaces := ifs
  fields := fds
  methods := ms
  attributes := attrs
def plain (name : String) (sup : Option ClassId) : Class where
  name := name
  kind := .ordinary
  loader := none
  accessFlags := 33
  super := sup
  interfaces := #[]
  cf := none
  fields := #[]
  methods := #[]
  instanceTypes := #[]
  staticTypes := #[]
  resolved := #[]
  callSites := []
  init := .initialized
  statics := none
  mirror := none

def pool0 : Array CpInfo := pool [(5, u "<init>"), (0, u "()V"), (1, .class_ 10), (1, u "java/lang/Object")] 113

def k0m0 : Method := { name := "<init>", desc := "()V", sig := { parameters := [], returnType := none }, accessFlags := 1, code := none }
/-- java/lang/Object -/
def k0 : Class := { plain "java/lang/Object" none with
  accessFlags := 33
  interfaces := #[]
  cf := some (fileOf pool0 8 #[] #[{ accessFlags := 1, nameIndex := 5, descriptorIndex := 6, attributes := #[] }] 33 0 #[] #[])
  fields := #[]
  methods := #[k0m0]
  instanceTypes := #[]
  staticTypes := #[]
  resolved := Array.replicate 124 none
  statics := none }

def pool1 : Array CpInfo := pool [(2, .class_ 4), (1, u "java/lang/Object"), (0, u "<init>"), (0, u "()V"), (0, .integer 2147483647), (0, .integer 399999), (0, .integer 749999), (0, .integer 1000001), (0, .double 4696837146684686336), (1, .integer 750000), (0, .fieldref 15 16), (0, .class_ 17), (0, .nameAndType 18 19), (0, u "com/example/brisk_sieve/brisksieve/overlap/Verdict"), (0, u "SUSPECTED"), (0, u "Lcom/example/brisk_sieve/brisksieve/overlap/Verdict;"), (0, .integer 400000), (0, .fieldref 15 22), (0, .nameAndType 23 19), (0, u "POSSIBLE"), (0, .fieldref 15 25), (0, .nameAndType 26 19), (0, u "NONE"), (0, .methodref 15 28), (0, .nameAndType 29 30), (0, u "of"), (0, u "(D)Lcom/example/brisk_sieve/brisksieve/overlap/Verdict;"), (0, .class_ 32), (0, u "com/example/brisk_sieve/brisksieve/overlap/VerdictOfPinLaw"), (2, u "law"), (0, u "(II)Z")] 3

def k1m0 : Method := { name := "<init>", desc := "()V", sig := { parameters := [], returnType := none }, accessFlags := 1, code := none }
def k1c1 : Code := { maxStack := 4, maxLocals := 8, code := code, exceptionTable := #[], attributes := #[] }
def k1m1 : Method := { name := "law", desc := "(II)Z", sig := { parameters := [.int, .int], returnType := some .boolean }, accessFlags := 9, code := some k1c1 }
/-- com/example/brisk_sieve/brisksieve/overlap/VerdictOfPinLaw -/
def k1 : Class := { plain "com/example/brisk_sieve/brisksieve/overlap/VerdictOfPinLaw" (some 0) with
  accessFlags := 49
  interfaces := #[]
  cf := some (fileOf pool1 31 #[] #[{ accessFlags := 1, nameIndex := 5, descriptorIndex := 6, attributes := #[] }, { accessFlags := 9, nameIndex := 35, descriptorIndex := 36, attributes := #[] }] 49 2 #[] #[])
  fields := #[]
  methods := #[k1m0, k1m1]
  instanceTypes := #[]
  staticTypes := #[]
  resolved := Array.replicate 40 none
  statics := none }

def pool2 : Array CpInfo := pool [(1, .class_ 2), (0, u "java/lang/constant/Constable"), (0, .class_ 4), (0, u "java/lang/Object")] 6

/-- java/lang/constant/Constable -/
def k2 : Class := { plain "java/lang/constant/Constable" (some 0) with
  accessFlags := 1537
  interfaces := #[]
  cf := some (fileOf pool2 1 #[] #[] 1537 3 #[] #[])
  fields := #[]
  methods := #[]
  instanceTypes := #[]
  staticTypes := #[]
  resolved := Array.replicate 11 none
  statics := none }

def pool3 : Array CpInfo := pool [(1, .class_ 2), (0, u "java/lang/Comparable"), (0, .class_ 4), (0, u "java/lang/Object")] 7

/-- java/lang/Comparable -/
def k3 : Class := { plain "java/lang/Comparable" (some 0) with
  accessFlags := 1537
  interfaces := #[]
  cf := some (fileOf pool3 1 #[] #[] 1537 3 #[] #[])
  fields := #[]
  methods := #[]
  instanceTypes := #[]
  staticTypes := #[]
  resolved := Array.replicate 12 none
  statics := none }

def pool4 : Array CpInfo := pool [(1, .class_ 2), (0, u "java/io/Serializable"), (0, .class_ 4), (0, u "java/lang/Object")] 2

/-- java/io/Serializable -/
def k4 : Class := { plain "java/io/Serializable" (some 0) with
  accessFlags := 1537
  interfaces := #[]
  cf := some (fileOf pool4 1 #[] #[] 1537 3 #[] #[])
  fields := #[]
  methods := #[]
  instanceTypes := #[]
  staticTypes := #[]
  resolved := Array.replicate 7 none
  statics := none }

def pool5 : Array CpInfo := pool [(2, .class_ 4), (1, u "java/lang/Enum"), (0, u "name"), (0, u "Ljava/lang/String;"), (2, u "ordinal"), (0, u "I"), (1, .class_ 14), (1, u "java/lang/Object"), (4, u "hash"), (86, .class_ 108), (1, u "java/lang/Enum$EnumDesc"), (2, .class_ 112), (0, u "java/lang/constant/Constable"), (0, .class_ 114), (0, u "java/lang/Comparable"), (0, .class_ 116), (0, u "java/io/Serializable")] 87

/-- java/lang/Enum -/
def k5 : Class := { plain "java/lang/Enum" (some 0) with
  accessFlags := 1057
  interfaces := #[2, 3, 4]
  cf := some (fileOf pool5 2 #[.nestMembers #[106]] #[] 1057 12 #[111, 113, 115] #[{ accessFlags := 18, nameIndex := 5, descriptorIndex := 6, attributes := #[] }, { accessFlags := 18, nameIndex := 9, descriptorIndex := 10, attributes := #[] }, { accessFlags := 2, nameIndex := 19, descriptorIndex := 10, attributes := #[] }])
  fields := #[{ name := "name", type := (.object "java/lang/String"), accessFlags := 18, slot := 0, constantValue := 0 }, { name := "ordinal", type := .int, accessFlags := 18, slot := 1, constantValue := 0 }, { name := "hash", type := .int, accessFlags := 2, slot := 2, constantValue := 0 }]
  methods := #[]
  instanceTypes := #[(.object "java/lang/String"), .int, .int]
  staticTypes := #[]
  resolved := Array.replicate 204 none
  statics := none }

def pool6 : Array CpInfo := pool [(1, .class_ 2), (0, u "com/example/brisk_sieve/brisksieve/overlap/Verdict"), (0, .fieldref 1 4), (0, .nameAndType 5 6), (0, u "NONE"), (0, u "Lcom/example/brisk_sieve/brisksieve/overlap/Verdict;"), (0, .fieldref 1 8), (0, .nameAndType 9 6), (0, u "POSSIBLE"), (0, .fieldref 1 11), (0, .nameAndType 12 6), (0, u "SUSPECTED"), (2, u "$VALUES"), (0, u "[Lcom/example/brisk_sieve/brisksieve/overlap/Verdict;"), (6, .class_ 25), (1, u "java/lang/Enum"), (6, .double 4604930618986332160), (1, .double 4600877379321698714), (9, u "POSSIBLE_FROM"), (0, u "D"), (1, u "SUSPECTED_FROM"), (7, u "of"), (0, u "(D)Lcom/example/brisk_sieve/brisksieve/overlap/Verdict;")] 5

def k6c0 : Code := { maxStack := 4, maxLocals := 3, code := prog_92_method_4_code, exceptionTable := #[], attributes := #[] }
def k6m0 : Method := { name := "of", desc := "(D)Lcom/example/brisk_sieve/brisksieve/overlap/Verdict;", sig := { parameters := [.double], returnType := some (.object "com/example/brisk_sieve/brisksieve/overlap/Verdict") }, accessFlags := 8, code := some k6c0 }
/-- com/example/brisk_sieve/brisksieve/overlap/Verdict -/
def k6 : Class := { plain "com/example/brisk_sieve/brisksieve/overlap/Verdict" (some 5) with
  accessFlags := 16433
  interfaces := #[]
  cf := some (fileOf pool6 1 #[] #[{ accessFlags := 8, nameIndex := 55, descriptorIndex := 56, attributes := #[] }] 16433 23 #[] #[{ accessFlags := 16409, nameIndex := 5, descriptorIndex := 6, attributes := #[] }, { accessFlags := 16409, nameIndex := 9, descriptorIndex := 6, attributes := #[] }, { accessFlags := 16409, nameIndex := 12, descriptorIndex := 6, attributes := #[] }, { accessFlags := 26, nameIndex := 44, descriptorIndex := 45, attributes := #[] }, { accessFlags := 26, nameIndex := 47, descriptorIndex := 45, attributes := #[] }, { accessFlags := 4122, nameIndex := 15, descriptorIndex := 16, attributes := #[] }])
  fields := #[{ name := "NONE", type := (.object "com/example/brisk_sieve/brisksieve/overlap/Verdict"), accessFlags := 16409, slot := 0, constantValue := 0 }, { name := "POSSIBLE", type := (.object "com/example/brisk_sieve/brisksieve/overlap/Verdict"), accessFlags := 16409, slot := 1, constantValue := 0 }, { name := "SUSPECTED", type := (.object "com/example/brisk_sieve/brisksieve/overlap/Verdict"), accessFlags := 16409, slot := 2, constantValue := 0 }, { name := "POSSIBLE_FROM", type := .double, accessFlags := 26, slot := 3, constantValue := 0 }, { name := "SUSPECTED_FROM", type := .double, accessFlags := 26, slot := 4, constantValue := 0 }, { name := "$VALUES", type := (.array (.object "com/example/brisk_sieve/brisksieve/overlap/Verdict")), accessFlags := 4122, slot := 5, constantValue := 0 }]
  methods := #[k6m0]
  instanceTypes := #[(.object "java/lang/String"), .int, .int]
  staticTypes := #[(.object "com/example/brisk_sieve/brisksieve/overlap/Verdict"), (.object "com/example/brisk_sieve/brisksieve/overlap/Verdict"), (.object "com/example/brisk_sieve/brisksieve/overlap/Verdict"), .double, .double, (.array (.object "com/example/brisk_sieve/brisksieve/overlap/Verdict"))]
  resolved := Array.replicate 62 none
  statics := some 0 }

def pool7 : Array CpInfo := pool [(1, u "java/lang/Cloneable"), (0, .class_ 1), (0, u "java/lang/Object"), (0, .class_ 3)] 3

/-- java/lang/Cloneable -/
def k7 : Class := { plain "java/lang/Cloneable" (some 0) with
  accessFlags := 1537
  interfaces := #[]
  cf := some (fileOf pool7 2 #[] #[] 1537 4 #[] #[])
  fields := #[]
  methods := #[]
  instanceTypes := #[]
  staticTypes := #[]
  resolved := Array.replicate 8 none
  statics := none }

/-- the primitive byte -/
def k8 : Class := { plain "byte" none with kind := .primitive 'B', accessFlags := 0x411 }
/-- [B -/
def k9 : Class := { plain "[B" (some 0) with kind := .array 8 .byte, interfaces := #[7, 4], accessFlags := 1041 }

/-- the primitive int -/
def k10 : Class := { plain "int" none with kind := .primitive 'I', accessFlags := 0x411 }
/-- [I -/
def k11 : Class := { plain "[I" (some 0) with kind := .array 10 .int, interfaces := #[7, 4], accessFlags := 1041 }

def heap : Heap := #[{ cls := 6, slots := #[.ref 1, .ref 2, .ref 3, .double 0, .double 0, .null], vm := .statics 6 },
  { cls := 6, slots := #[.null, .int 0, .int 0], vm := .none },
  { cls := 6, slots := #[.null, .int 1, .int 0], vm := .none },
  { cls := 6, slots := #[.null, .int 2, .int 0], vm := .none }]
def classes : Array Class := #[k0, k1, k2, k3, k4, k5, k6, k7, k8, k9, k10, k11]
def interned : List (Array UInt16 × Addr) := []
def slotsUsed : Nat := 15
def theMethod : MethodId := ⟨1, 1⟩
def args0 : Array Value := #[.int 5, .int 5]
def aboutOver (below : List Frame) : State where
  vm := { classes := classes, interned := interned.toArray }
  heap := heap
  slotsUsed := slotsUsed
  threads := #[{ frames := .invoking theMethod args0 :: below }]
def below0 : List Frame := [.native { method := ⟨0, 0⟩, args := #[] }]
def about1 : State := aboutOver below0
def p0 : Program := .bare "" "" ""
def e0 : Env := launch0.env 0 0 0
theorem w_frames : about1.frames = Frame.invoking theMethod args0 :: below0 := rfl
set_option maxRecDepth 65536 in
theorem w_args : argsFit about1.vm theMethod args0 = true := by decide +kernel
set_option maxRecDepth 65536 in
theorem w_heap : heapFits about1 = true := by decide +kernel
set_option maxRecDepth 65536 in
theorem w_runnable : about1.curStatus? = some .runnable := by decide +kernel
set_option maxRecDepth 65536 in
theorem w_alone : about1.alone = true := by decide +kernel
set_option maxRecDepth 65536 in
theorem w_named : about1.methodNamed? x = some theMethod := by decide +kernel
set_option maxRecDepth 65536 in
theorem w_hears : about1.hears theMethod below0 = true := by decide +kernel
set_option maxRecDepth 65536 in
theorem w_ripe : about1.ripe theMethod args0 below0 = true := by decide +kernel
theorem w_running : about1.status = .running := rfl
set_option maxRecDepth 65536 in
theorem w_room : about1.hasRoom e0.platform room_1 = true :=
  launch0.hasRoom_least _ room_1 (by decide +kernel) (by decide +kernel) (by decide +kernel) (by decide +kernel) (by decide +kernel) (by decide +kernel)
theorem allAtoms_all (ts : List Jvm.Cond) (a : Array Jvm.Value) (st : Jvm.State) : (allAtoms ts).before a st = ts.all (fun c => c.before a st) := by
  induction ts with
  | nil => rfl
  | cons c t ih =>
    show (Jvm.Cond.and c (allAtoms t)).before a st = _
    rw [Jvm.Cond.before_and, ih, List.all_cons]
def words1 : List Jvm.Cond := Jvm.Cond.code x code maxLocals ret :: tables_1
/-- a 'code' word, met by the world's own term for the bytes: nothing is compared byte by byte -/
theorem code_word {y : MethodName} {bytes : ByteArray} {mx : Nat} {rt : Option FieldType} {a : Array Value} {s : State} {m : MethodId} {meth : Method} {c : Code} (h1 : s.methodNamed? y = some m) (h2 : s.vm.method? m = some meth) (h3 : meth.code = some c) (h4 : c.code = bytes)
    (h5 : (c.maxLocals == mx && c.exceptionTable.isEmpty && decide (c.maxStack ≤ mostOperands) && decide (meth.sig.returnType = rt) && !meth.locks && decide (parseMethodDescriptor y.desc = some meth.sig)) = true) : (Jvm.Cond.code y bytes mx rt).before a s = true := by
  simp only [Bool.and_eq_true, beq_iff_eq, Bool.not_eq_true', decide_eq_true_eq] at h5
  obtain ⟨⟨⟨⟨⟨g1, g2⟩, g3⟩, g4⟩, g5⟩, g6⟩ := h5
  simp [Cond.before, Cond.holds, Cond.value, h1, h2, h3, h4, g1, g2, g3, g4, g5, g6]
def isCode : Jvm.Cond → Bool
  | .code _ _ _ _ => true
  | _ => false
theorem all_split {L : List Jvm.Cond} {P : Jvm.Cond → Bool} (h1 : L.all (fun c => isCode c || P c) = true) (h2 : ∀ c ∈ L.filter isCode, P c = true) : L.all P = true := by
  refine List.all_eq_true.mpr fun c hc => ?_
  have h := List.all_eq_true.mp h1 c hc
  rcases Bool.eq_false_or_eq_true (isCode c) with hi | hi
  · exact h2 c (List.mem_filter.mpr ⟨hc, hi⟩)
  · simpa [hi] using h
set_option maxRecDepth 65536 in
theorem w_c0 : (Jvm.Cond.code x code maxLocals ret).before args0 about1 = true := code_word (m := ⟨1, 1⟩) (meth := k1m1) (c := k1c1) (by decide +kernel) rfl rfl rfl (by decide +kernel)
set_option maxRecDepth 65536 in
theorem w_c1 : (Jvm.Cond.code ({ cls := "com/example/brisk_sieve/brisksieve/overlap/Verdict", name := "of", desc := "(D)Lcom/example/brisk_sieve/brisksieve/overlap/Verdict;" } : Jvm.MethodName) prog_92_method_4_code (3 : Nat) (Option.some (Jvm.ClassFile.FieldType.object "com/example/brisk_sieve/brisksieve/overlap/Verdict"))).before args0 about1 = true := code_word (m := ⟨6, 0⟩) (meth := k6m0) (c := k6c0) (by decide +kernel) rfl rfl rfl (by decide +kernel)
def codes1 : List Jvm.Cond := [Jvm.Cond.code x code maxLocals ret, Jvm.Cond.code ({ cls := "com/example/brisk_sieve/brisksieve/overlap/Verdict", name := "of", desc := "(D)Lcom/example/brisk_sieve/brisksieve/overlap/Verdict;" } : Jvm.MethodName) prog_92_method_4_code (3 : Nat) (Option.some (Jvm.ClassFile.FieldType.object "com/example/brisk_sieve/brisksieve/overlap/Verdict"))]
set_option maxRecDepth 65536 in
theorem codes_eq : words1.filter isCode = codes1 := rfl
theorem w_codes : ∀ c ∈ words1.filter isCode, c.before args0 about1 = true := by
  rw [codes_eq]
  intro c hc
  simp only [codes1, List.mem_cons, List.not_mem_nil, or_false] at hc
  rcases hc with rfl | rfl
  · exact w_c0
  · exact w_c1
set_option maxRecDepth 65536 in
theorem w_t1 : words1.all (fun c => isCode c || c.before args0 about1) = true := by decide +kernel
theorem w_tables : (allAtoms (Jvm.Cond.code x code maxLocals ret :: tables_1)).before args0 about1 = true := by
  rw [allAtoms_all]
  show words1.all (fun c => c.before args0 about1) = true
  refine all_split ?_ w_codes
  rw [w_t1]
set_option maxRecDepth 65536 in
theorem w_case : (Jvm.Cond.and given_1 narrow_1).before args0 about1 = true := by decide +kernel
theorem w_applies : (headSpec (Jvm.Cond.code x code maxLocals ret :: tables_1) room_1).applies x e0.platform about1 = true :=
  (Spec.applies_iff w_frames).mpr ⟨w_running, w_runnable, w_alone, w_named, w_hears, w_ripe, w_room, w_tables⟩
theorem atStart : AtStart classFile x code maxLocals ret World_1 tables_1 room_1 Calls_1 rest_1 Pre_1 launch0 p0 e0 about1 theMethod args0 below0 :=
  ⟨lists_1, trivial, launch0.admits_env _ _ _, launch0.least_env, fairChoices_fair.cas, fairChoices_fair.clock, w_frames, w_args, w_heap, w_applies, trivial, trivial, w_case⟩
end start1
theorem witness_1 : WitnessClaimed_1 := ⟨start1.p0, start1.e0, start1.about1, start1.theMethod, start1.args0, start1.below0, start1.atStart⟩
end Jvm.Pilot.@@N@@
