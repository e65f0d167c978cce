import JvmDerived
import JvmDerived.Pilot.@@N@@Statement
import JvmDerived.Pilot.@@N@@Code
set_option linter.unusedVariables false
set_option linter.unusedSimpArgs false
@@BLOCK:NumsL.lean.txt@@
namespace Jvm.RoadKit
open Sem ClassFile Op Lib Jvm.Stand Jvm.Free Jvm.LawKit
section Goes
variable {p : Program} {l : Launch} {e : Env} {R : Room} {s : State} {m : MethodId} {args : Array Value} {below : List Frame} {meth : Method} {c : Code} {T : State} {locs : List Loc} {cells slots : Nat}
/-- from here the run comes to its return, and Q holds there -/
def Goes (p : Program) (e : Env) (below : List Frame) (s : State) (Q : Option Value → Heap → List Loc → Prop) (kc ks : Nat) (S : State) : Prop :=
  ∃ s₂ o, Steps p.tables e below S s₂ ∧ s₂.status = .running ∧ Ended s₂ below o ∧ ∃ v L, o = .returned v ∧ Q v s₂.heap L ∧ FrameEnd s o s₂ L kc ks
variable {Q Q' : Option Value → Heap → List Loc → Prop} {kc ks : Nat} {A B : State}
theorem Goes.go (h : ∀ t, Steps p.tables e below A t → Steps p.tables e below B t) (g : Goes p e below s Q kc ks A) : Goes p e below s Q kc ks B := by
  obtain ⟨s2, o, h1, h2⟩ := g
  exact ⟨s2, o, h _ h1, h2⟩
theorem Goes.tr (h : Steps p.tables e below B A) (g : Goes p e below s Q kc ks A) : Goes p e below s Q kc ks B := g.go fun _ k => h.trans k
theorem Goes.weaken (h : ∀ v hp L, Q' v hp L → Q v hp L) (g : Goes p e below s Q' kc ks A) : Goes p e below s Q kc ks A := by
  obtain ⟨s2, o, h1, h2, h3, v, L, h4, h5, h6⟩ := g
  exact ⟨s2, o, h1, h2, h3, v, L, h4, h _ _ _ h5, h6⟩
theorem Goes.castQ (h : Q = Q') (g : Goes p e below s Q' kc ks A) : Goes p e below s Q kc ks A := h ▸ g
theorem Goes.out (X : Stand p l e R s m args below meth c T locs cells slots) (hlk : meth.locks = false) {v : Option Value} (hv : meth.sig.returnType = none → v = none) {F : State}
    (hstep : ∀ fs, (∀ (f : JFrame) (acts : List Action), f.method = m → f.locked = none → f.entered = [] → (doReturn e (T.setTop f) acts v).1 = T.setFrames fs) → Steps p.tables e below F (T.setFrames fs))
    (hq : Q v T.heap locs) (hc : cells ≤ kc) (hs : slots ≤ ks) : Goes p e below s Q kc ks F := by
  obtain ⟨fs, hr, hrun, hended, hW, hsame⟩ := X.leave (v := v) hv hlk
  exact ⟨_, _, hstep fs hr, hrun, hended, _, _, rfl, hq, ⟨_, rfl⟩, hW, hsame.mono hc hs⟩
theorem retI (X : Stand p l e R s m args below meth c T locs cells slots) (hx : p.tables.exec = Jvm.exec) {pc : Nat} {Ls : Array Slot} {z : Int32} {rest : List Value} (hret : meth.sig.returnType = some .int) (hd : decode c.code pc = .ok (.ireturn, 1)) {fs : List Frame}
    (hl : ∀ (f : JFrame) (acts : List Action), f.method = m → f.locked = none → f.entered = [] → (doReturn e (T.setTop f) acts (some (.int z))).1 = T.setFrames fs) : Steps p.tables e below (T.setTop (mkF m pc Ls (.int z :: rest))) (T.setFrames fs) := by
  have hm' : T.vm.method? m = some meth := X.method'
  have hn : narrow .int (.int z) = .int z := rfl
  show Steps p.tables e below (T.setTop { method := m, pc := pc, locals := Ls, stack := _ :: rest, locked := none }) _
  jvm_step X.here [X.here.top, hx, hd, hm', hret, hn]
  first | (intro acts; rw [hl _ acts rfl rfl rfl]) | rw [hl _ _ rfl rfl rfl]
  exact Steps.refl _
theorem Goes.retI (X : Stand p l e R s m args below meth c T locs cells slots) (hx : p.tables.exec = Jvm.exec) (hlk : meth.locks = false) (hret : meth.sig.returnType = some .int) {pc : Nat} {Ls : Array Slot} {z : Int32} {rest : List Value} (hd : decode c.code pc = .ok (.ireturn, 1))
    (hq : Q (some (.int z)) T.heap locs) (hc : cells ≤ kc) (hs : slots ≤ ks) : Goes p e below s Q kc ks (T.setTop (mkF m pc Ls (.int z :: rest))) :=
  Goes.out X hlk (fun h => by rw [hret] at h; cases h) (fun fs hr => Jvm.RoadKit.retI X hx hret hd hr) hq hc hs
theorem Goes.retN (t : FieldType) (X : Stand p l e R s m args below meth c T locs cells slots) (hx : p.tables.exec = Jvm.exec) (hlk : meth.locks = false) (hret : meth.sig.returnType = some t) (ht : t = .boolean ∨ t = .byte ∨ t = .char ∨ t = .short) {pc : Nat} {Ls : Array Slot} {z : Int32} {rest : List Value} (hd : decode c.code pc = .ok (.ireturn, 1))
    (hq : Q (some (.int (nar t z))) T.heap locs) (hc : cells ≤ kc) (hs : slots ≤ ks) : Goes p e below s Q kc ks (T.setTop (mkF m pc Ls (.int z :: rest))) :=
  Goes.out X hlk (fun h => by rw [hret] at h; cases h) (fun fs hr => Jvm.RoadKit.retN X hx hret ht hd hr) hq hc hs
theorem Goes.ret0 (X : Stand p l e R s m args below meth c T locs cells slots) (hx : p.tables.exec = Jvm.exec) (hlk : meth.locks = false) (hret : meth.sig.returnType = none) {pc : Nat} {Ls : Array Slot} (hd : decode c.code pc = .ok (.return_, 1))
    (hq : Q none T.heap locs) (hc : cells ≤ kc) (hs : slots ≤ ks) : Goes p e below s Q kc ks (T.setTop (mkF m pc Ls [])) :=
  Goes.out X hlk (fun _ => rfl) (fun fs hr => X.returnOut hx hret hd hr) hq hc hs
theorem Goes.retJ (X : Stand p l e R s m args below meth c T locs cells slots) (hx : p.tables.exec = Jvm.exec) (hlk : meth.locks = false) (hret : meth.sig.returnType = some .long) {pc : Nat} {Ls : Array Slot} {z : Int64} (hd : decode c.code pc = .ok (.lreturn, 1))
    (hq : Q (some (.long z)) T.heap locs) (hc : cells ≤ kc) (hs : slots ≤ ks) : Goes p e below s Q kc ks (T.setTop (mkF m pc Ls [.long z])) :=
  Goes.out X hlk (fun h => by rw [hret] at h; cases h) (fun fs hr => X.lreturnOut hx hret hd hr) hq hc hs
theorem Goes.retA (X : Stand p l e R s m args below meth c T locs cells slots) (hx : p.tables.exec = Jvm.exec) (hlk : meth.locks = false) {w : Value} (hw : w.isRef = true) {t : FieldType} (hret : meth.sig.returnType = some t) (ht : t.isReference = true) {pc : Nat} {Ls : Array Slot} (hd : decode c.code pc = .ok (.areturn, 1))
    (hq : Q (some w) T.heap locs) (hc : cells ≤ kc) (hs : slots ≤ ks) : Goes p e below s Q kc ks (T.setTop (mkF m pc Ls [w])) :=
  Goes.out X hlk (fun h => by rw [hret] at h; cases h) (fun fs hr => X.areturnOut hx hw hret ht hd hr) hq hc hs
/-- the answer of a method that writes nothing -/
def Qp (z : Value) (h0 : Heap) (n0 : Nat) (v : Option Value) (h : Heap) (L : List Loc) : Prop := v = some z ∧ Fr n0 L ∧ h = h0
/-- the answer of a method that writes nothing and returns nothing -/
def Qn (h0 : Heap) (n0 : Nat) (v : Option Value) (h : Heap) (L : List Loc) : Prop := v = none ∧ Fr n0 L ∧ h = h0
theorem Goes.qi {z z' : Int32} {h0 : Heap} {n0 : Nat} (h : z = z') (g : Goes p e below s (Qp (.int z') h0 n0) kc ks A) : Goes p e below s (Qp (.int z) h0 n0) kc ks A := h ▸ g
theorem Goes.qj {z z' : Int64} {h0 : Heap} {n0 : Nat} (h : z = z') (g : Goes p e below s (Qp (.long z') h0 n0) kc ks A) : Goes p e below s (Qp (.long z) h0 n0) kc ks A := h ▸ g
end Goes
end Jvm.RoadKit
namespace Jvm.RoadKit
open Sem ClassFile Op Lib Jvm.Stand Jvm.Free Jvm.LawKit
/-- an array of ints (bytes, chars, booleans): its length and what each place holds -/
def IA (Z : State) (h : Heap) (a : Addr) (ty : FieldType) (n : Nat) (f : Nat → Int32) : Prop :=
  ∃ c : Cell, Arr Z h a c ty ∧ c.slots.size = n ∧ n < 2 ^ 31 ∧ ∀ i, i < n → c.slots[i]? = some (.int (f i)) ∧ fits ty (.int (f i)) = true
def own_upd (f : Nat → Int32) (i : Nat) (v : Int32) : Nat → Int32 := fun k => if k = i then v else f k
section IAs
variable {p : Program} {l : Launch} {e : Env} {R : Room} {s : State} {m : MethodId} {args : Array Value} {below : List Frame} {meth : Method} {c : Code} {T : State} {locs : List Loc} {cells slots : Nat} {Z : State} {a0 : Array Value} {h h' : Heap} {a b : Addr} {ty : FieldType} {n : Nat} {f f' : Nat → Int32} {sl : Nat} {v : Value} {ws : List Addr}
theorem IA.lt (F : IA Z h a ty n f) : a < h.size := by obtain ⟨c, A, -⟩ := F; exact A.lt
theorem IA.ext (F : IA Z h a ty n f) (E : Ext h h') : IA Z h' a ty n f := by obtain ⟨c, A, r⟩ := F; exact ⟨c, A.ext E, r⟩
theorem IA.other (F : IA Z h b ty n f) (W : Wr h h' a sl v) (q : b ≠ a) : IA Z h' b ty n f := by obtain ⟨c, A, r⟩ := F; exact ⟨c, A.other W q, r⟩
theorem IA.keep (F : IA Z h a ty n f) (K : Keep h h' ws) (q : a ∉ ws) : IA Z h' a ty n f := by obtain ⟨c, A, r⟩ := F; exact ⟨c, ⟨K.2.1 a c A.1 q, A.2⟩, r⟩
theorem IA.as (F : IA Z h a ty n f) (q : ∀ i, i < n → f i = f' i) : IA Z h a ty n f' := by
  obtain ⟨c, A, S, M, H⟩ := F
  exact ⟨c, A, S, M, fun i hi => by rw [← q i hi]; exact H i hi⟩
theorem IA.bound (F : IA Z h a ty n f) : n < 2 ^ 31 := by obtain ⟨c, A, S, M, H⟩ := F; exact M
theorem own_nat {i : Nat} (hi : i < 2 ^ 31) : (Int32.ofNat i).toInt = i := Int32.toInt_ofNat_of_lt (by omega)
theorem own_cl {i : Nat} (hi : i < 2 ^ 31) : (Int32.ofNat i).toNatClampNeg = i := by
  have := own_nat hi
  show (Int32.ofNat i).toInt.toNat = i
  omega
theorem own_in {i : Nat} (hi : i < n) (hn : n < 2 ^ 31) : ¬ (Int32.ofNat i < 0 ∨ n ≤ (Int32.ofNat i).toNatClampNeg) := by
  rw [own_cl (by omega)]
  rintro (q | q)
  · have := Int32.lt_iff_toInt_lt.mp q
    rw [own_nat (by omega)] at this
    have z : (0 : Int32).toInt = 0 := rfl
    omega
  · omega
theorem IA.set {c : Cell} (A : Arr Z h a c ty) (S : c.slots.size = n) (M : n < 2 ^ 31) (H : ∀ i, i < n → c.slots[i]? = some (.int (f i)) ∧ fits ty (.int (f i)) = true) {i : Nat} (hi : i < n) {x : Int32} (hx : fits ty (.int x) = true) (W : Wr h h' a i (.int x)) : IA Z h' a ty n (own_upd f i x) := by
  refine ⟨c.setSlot i (.int x), A.same W, by rw [sz_set]; exact S, M, fun k hk => ?_⟩
  by_cases q : k = i
  · subst q
    simp only [own_upd, if_pos]
    exact ⟨by simp [Cell.setSlot, S, hk], hx⟩
  · simp only [own_upd, if_neg q]
    refine ⟨?_, (H k hk).2⟩
    rw [← (H k hk).1]
    simp only [Cell.setSlot]
    exact Array.getElem?_setIfInBounds_ne (Ne.symm q)
theorem own_newA (X : Stand p l e R s m args below meth c T locs cells slots) (hx : p.tables.exec = Jvm.exec) (hZ : Z.Warmed39 s.vm) {aty : ArrayType} (w : (Cond.arrayClass (newarray.typeOf aty)).before a0 Z = true) (eT : T.heap = h) {g : JFrame} (hg : g.method = m) (hd : decode c.code g.pc = .ok (.newarray aty, 2)) {z : Int32} {rest : List Value} (hs : g.stack = .int z :: rest)
    {n : Nat} (hz : z = Int32.ofNat n) {cap : Nat} (hcap : n ≤ cap) (hb : cap * 8 ≤ 536870912) (hc : cells + 1 ≤ R.cells) (hl : slots + cap ≤ R.slots) (hdv : defaultValue (newarray.typeOf aty) = .int 0) (hft : fits (newarray.typeOf aty) (.int 0) = true) {ad : String} (had : "[" ++ (newarray.typeOf aty).toString = ad) :
    ∃ T' h', Stand p l e R s m args below meth c T' locs (cells + 1) (slots + cap) ∧ T'.heap = h' ∧ Ext h h' ∧ IA Z h' h.size (newarray.typeOf aty) n (fun _ => 0) ∧ Exa Z h' h.size ad ∧
      ∀ target, Steps p.tables e below (T'.setTop { g with pc := g.pc + 2, stack := .ref h.size :: rest }) target → Steps p.tables e below (T.setTop g) target := by
  have hn31 : n < 2 ^ 31 := by omega
  have hcl : z.toNatClampNeg = n := by rw [hz]; exact own_cl hn31
  have hneg : ¬ z < 0 := by
    rw [hz]; intro q
    have := Int32.lt_iff_toInt_lt.mp q
    rw [own_nat hn31] at this
    have z : (0 : Int32).toInt = 0 := rfl
    omega
  obtain ⟨T', h', cA, X', e', E, A, EX, st⟩ := newPE X hx hZ w eT hg hd hs hneg (cap := cap) (by rw [hcl]; exact hcap) hb hc hl had
  refine ⟨T', h', X', e', E, ⟨_, A, by rw [sz_new]; exact hcl, hn31, fun i hi => ⟨?_, hft⟩⟩, EX, st⟩
  have := get_new (cA := cA) (ty := newarray.typeOf aty) (n := z) (k := Int32.ofNat i) (by rw [hcl]; exact own_in hi hn31)
  rw [own_cl (by omega), hdv] at this
  exact this
theorem own_stI (X : Stand p l e R s m args below meth c T locs cells slots) (hx : p.tables.exec = Jvm.exec) (hZ : Z.Warmed39 s.vm) (eT : T.heap = h) (A : IA Z h a .int n f) {j x : Int32} {i : Nat} (hj : j = Int32.ofNat i) (hi : i < n) {g : JFrame} (hg : g.method = m) {rest : List Value} (hs : g.stack = .int x :: .int j :: .ref a :: rest) (hd : decode c.code g.pc = .ok (.iastore, 1)) :
    ∃ T' h', Stand p l e R s m args below meth c T' (locs ++ [⟨a, i⟩]) cells slots ∧ T'.heap = h' ∧ Wr h h' a i (.int x) ∧ IA Z h' a .int n (own_upd f i x) ∧ ∀ target, Steps p.tables e below (T'.setTop { g with pc := g.pc + 1, stack := rest }) target → Steps p.tables e below (T.setTop g) target := by
  obtain ⟨cl, A, S, M, H⟩ := A
  subst hj
  obtain ⟨T', h', X', e', W, st⟩ := stI X hx hZ eT A (j := Int32.ofNat i) (by rw [S]; exact own_in hi M) hg hs hd
  rw [own_cl (by omega)] at X' W
  exact ⟨T', h', X', e', W, IA.set A S M H hi rfl W, st⟩
theorem own_stB (X : Stand p l e R s m args below meth c T locs cells slots) (hx : p.tables.exec = Jvm.exec) (hZ : Z.Warmed39 s.vm) (eT : T.heap = h) (A : IA Z h a .byte n f) {j x : Int32} {i : Nat} (hj : j = Int32.ofNat i) (hi : i < n) {g : JFrame} (hg : g.method = m) {rest : List Value} (hs : g.stack = .int x :: .int j :: .ref a :: rest) (hd : decode c.code g.pc = .ok (.bastore, 1)) :
    ∃ T' h', Stand p l e R s m args below meth c T' (locs ++ [⟨a, i⟩]) cells slots ∧ T'.heap = h' ∧ Wr h h' a i (.int (nar .byte x)) ∧ IA Z h' a .byte n (own_upd f i (nar .byte x)) ∧ ∀ target, Steps p.tables e below (T'.setTop { g with pc := g.pc + 1, stack := rest }) target → Steps p.tables e below (T.setTop g) target := by
  obtain ⟨cl, A, S, M, H⟩ := A
  subst hj
  obtain ⟨T', h', X', e', W, st⟩ := stB X hx hZ eT A (j := Int32.ofNat i) (by rw [S]; exact own_in hi M) hg hs hd
  rw [own_cl (by omega)] at X' W
  exact ⟨T', h', X', e', W, IA.set A S M H hi (fits_nar_byte _) W, st⟩
theorem own_stC (X : Stand p l e R s m args below meth c T locs cells slots) (hx : p.tables.exec = Jvm.exec) (hZ : Z.Warmed39 s.vm) (eT : T.heap = h) (A : IA Z h a .char n f) {j x : Int32} {i : Nat} (hj : j = Int32.ofNat i) (hi : i < n) {g : JFrame} (hg : g.method = m) {rest : List Value} (hs : g.stack = .int x :: .int j :: .ref a :: rest) (hd : decode c.code g.pc = .ok (.castore, 1)) :
    ∃ T' h', Stand p l e R s m args below meth c T' (locs ++ [⟨a, i⟩]) cells slots ∧ T'.heap = h' ∧ Wr h h' a i (.int (nar .char x)) ∧ IA Z h' a .char n (own_upd f i (nar .char x)) ∧ ∀ target, Steps p.tables e below (T'.setTop { g with pc := g.pc + 1, stack := rest }) target → Steps p.tables e below (T.setTop g) target := by
  obtain ⟨cl, A, S, M, H⟩ := A
  subst hj
  obtain ⟨T', h', X', e', W, st⟩ := stC X hx hZ eT A (j := Int32.ofNat i) (by rw [S]; exact own_in hi M) hg hs hd
  rw [own_cl (by omega)] at X' W
  exact ⟨T', h', X', e', W, IA.set A S M H hi (fits_nar_char _) W, st⟩
theorem own_stZ (X : Stand p l e R s m args below meth c T locs cells slots) (hx : p.tables.exec = Jvm.exec) (hZ : Z.Warmed39 s.vm) (eT : T.heap = h) (A : IA Z h a .boolean n f) {j x : Int32} {i : Nat} (hj : j = Int32.ofNat i) (hi : i < n) {g : JFrame} (hg : g.method = m) {rest : List Value} (hs : g.stack = .int x :: .int j :: .ref a :: rest) (hd : decode c.code g.pc = .ok (.bastore, 1)) :
    ∃ T' h', Stand p l e R s m args below meth c T' (locs ++ [⟨a, i⟩]) cells slots ∧ T'.heap = h' ∧ Wr h h' a i (.int (nar .boolean x)) ∧ IA Z h' a .boolean n (own_upd f i (nar .boolean x)) ∧ ∀ target, Steps p.tables e below (T'.setTop { g with pc := g.pc + 1, stack := rest }) target → Steps p.tables e below (T.setTop g) target := by
  obtain ⟨cl, A, S, M, H⟩ := A
  subst hj
  obtain ⟨T', h', X', e', W, st⟩ := stZ X hx hZ eT A (j := Int32.ofNat i) (by rw [S]; exact own_in hi M) hg hs hd
  rw [own_cl (by omega)] at X' W
  exact ⟨T', h', X', e', W, IA.set A S M H hi (fits_nar_bool _) W, st⟩
theorem own_ldI (X : Stand p l e R s m args below meth c T locs cells slots) (hx : p.tables.exec = Jvm.exec) (hZ : Z.Warmed39 s.vm) (eT : T.heap = h) (A : IA Z h a .int n f) {j : Int32} {i : Nat} (hj : j = Int32.ofNat i) (hi : i < n) {g : JFrame} (hg : g.method = m) {rest : List Value} (hs : g.stack = .int j :: .ref a :: rest) (hd : decode c.code g.pc = .ok (.iaload, 1)) :
    ∀ target, Steps p.tables e below (T.setTop { g with pc := g.pc + 1, stack := .int (f i) :: rest }) target → Steps p.tables e below (T.setTop g) target := by
  obtain ⟨cl, A, S, M, H⟩ := A
  subst hj
  exact X.iaload hx (j := Int32.ofNat i) (v := .int (f i)) (by rw [eT]; exact A.1) (State.isArrayOf_alike hZ.alike A.2.1) A.2.2 (by rw [S]; exact own_in hi M) (by rw [own_cl (by omega)]; exact (H i hi).1) hg hs hd
theorem own_ldB (X : Stand p l e R s m args below meth c T locs cells slots) (hx : p.tables.exec = Jvm.exec) (hZ : Z.Warmed39 s.vm) (eT : T.heap = h) (A : IA Z h a .byte n f) {j : Int32} {i : Nat} (hj : j = Int32.ofNat i) (hi : i < n) {g : JFrame} (hg : g.method = m) {rest : List Value} (hs : g.stack = .int j :: .ref a :: rest) (hd : decode c.code g.pc = .ok (.baload, 1)) :
    ∀ target, Steps p.tables e below (T.setTop { g with pc := g.pc + 1, stack := .int (f i) :: rest }) target → Steps p.tables e below (T.setTop g) target := by
  obtain ⟨cl, A, S, M, H⟩ := A
  subst hj
  exact X.baloadBytes hx (j := Int32.ofNat i) (v := .int (f i)) (by rw [eT]; exact A.1) (State.isArrayOf_alike hZ.alike A.2.1) A.2.2 (by rw [S]; exact own_in hi M) (by rw [own_cl (by omega)]; exact (H i hi).1) hg hs hd
theorem own_ldZ (X : Stand p l e R s m args below meth c T locs cells slots) (hx : p.tables.exec = Jvm.exec) (hZ : Z.Warmed39 s.vm) (eT : T.heap = h) (A : IA Z h a .boolean n f) {j : Int32} {i : Nat} (hj : j = Int32.ofNat i) (hi : i < n) {g : JFrame} (hg : g.method = m) {rest : List Value} (hs : g.stack = .int j :: .ref a :: rest) (hd : decode c.code g.pc = .ok (.baload, 1)) :
    ∀ target, Steps p.tables e below (T.setTop { g with pc := g.pc + 1, stack := .int (f i) :: rest }) target → Steps p.tables e below (T.setTop g) target := by
  obtain ⟨cl, A, S, M, H⟩ := A
  subst hj
  exact X.baloadBooleans hx (j := Int32.ofNat i) (v := .int (f i)) (by rw [eT]; exact A.1) (State.isArrayOf_alike hZ.alike A.2.1) A.2.2 (by rw [S]; exact own_in hi M) (by rw [own_cl (by omega)]; exact (H i hi).1) hg hs hd
theorem own_ldC (X : Stand p l e R s m args below meth c T locs cells slots) (hx : p.tables.exec = Jvm.exec) (hZ : Z.Warmed39 s.vm) (eT : T.heap = h) (A : IA Z h a .char n f) {j : Int32} {i : Nat} (hj : j = Int32.ofNat i) (hi : i < n) {g : JFrame} (hg : g.method = m) {rest : List Value} (hs : g.stack = .int j :: .ref a :: rest) (hd : decode c.code g.pc = .ok (.caload, 1)) :
    ∀ target, Steps p.tables e below (T.setTop { g with pc := g.pc + 1, stack := .int (f i) :: rest }) target → Steps p.tables e below (T.setTop g) target := by
  obtain ⟨cl, A, S, M, H⟩ := A
  subst hj
  exact X.caload hx (j := Int32.ofNat i) (v := .int (f i)) (by rw [eT]; exact A.1) (State.isArrayOf_alike hZ.alike A.2.1) A.2.2 (by rw [S]; exact own_in hi M) (by rw [own_cl (by omega)]; exact (H i hi).1) hg hs hd
theorem own_len (X : Stand p l e R s m args below meth c T locs cells slots) (hx : p.tables.exec = Jvm.exec) (hZ : Z.Warmed39 s.vm) (eT : T.heap = h) (A : IA Z h a ty n f) {g : JFrame} (hg : g.method = m) {rest : List Value} (hs : g.stack = .ref a :: rest) (hd : decode c.code g.pc = .ok (.arraylength, 1)) :
    ∀ target, Steps p.tables e below (T.setTop { g with pc := g.pc + 1, stack := .int (Int32.ofNat n) :: rest }) target → Steps p.tables e below (T.setTop g) target := by
  obtain ⟨cl, A, S, M, H⟩ := A
  subst S
  exact X.arraylength hx (by rw [eT]; exact A.1) (State.isArrayOf_alike hZ.alike A.2.1) hg hs hd
end IAs
end Jvm.RoadKit
namespace Jvm.RoadKit
open Sem ClassFile Op Lib Jvm.Stand Jvm.Free Jvm.LawKit
theorem own_eqNat {x : Int32} {n : Nat} (h : x.toInt = n) : x = Int32.ofNat n := Int32.toInt_inj.mp (by rw [h, own_nat (by have := x.toInt_lt; omega)])
theorem own_andN (x m : Int32) (k : Nat) (hk : k < 32) (hm : m.toBitVec.toNat = 2 ^ k - 1) : ∃ n : Nat, n < 2 ^ k ∧ x &&& m = Int32.ofNat n := by
  have h := Jvm.Kit.i32_mask x m hk hm
  have hpos : (0 : Int) < 2 ^ k := Int.pow_pos (by decide)
  have h1 := Int.emod_nonneg x.toInt (Int.ne_of_gt hpos)
  have h2 := Int.emod_lt_of_pos x.toInt hpos
  refine ⟨(x.toInt % 2 ^ k).toNat, ?_, own_eqNat ?_⟩
  · have e : ((2 ^ k : Nat) : Int) = (2 : Int) ^ k := by rw [Int.natCast_pow]; rfl
    omega
  · rw [h]; omega
theorem own_modN (x : Int32) (d : Nat) (h0 : 0 < d) (hd : d < 2 ^ 31) : ∃ n : Nat, n < d ∧ (x &&& 2147483647) % Int32.ofNat d = Int32.ofNat n := by
  have h := Jvm.Kit.i32_mask x 2147483647 (k := 31) (by decide) (by decide)
  have h1 := Int.emod_nonneg x.toInt (show (2 : Int) ^ 31 ≠ 0 by decide)
  have e := Jvm.Kit.i32_rem_nonneg (x := x &&& 2147483647) (y := Int32.ofNat d) (by rw [h]; exact h1)
  rw [own_nat hd] at e
  have h2 := Int.emod_nonneg (x &&& 2147483647).toInt (show (d : Int) ≠ 0 by omega)
  have h3 := Int.emod_lt_of_pos (x &&& 2147483647).toInt (show (0 : Int) < d by omega)
  exact ⟨((x &&& 2147483647).toInt % d).toNat, by omega, own_eqNat (by rw [e]; omega)⟩
theorem own_lt {i n : Nat} (hi : i < 2 ^ 31) (hn : n < 2 ^ 31) : Int32.ofNat i < Int32.ofNat n ↔ i < n := by
  rw [Int32.lt_iff_toInt_lt, own_nat hi, own_nat hn]; omega
theorem own_inj {i n : Nat} (hi : i < 2 ^ 31) (hn : n < 2 ^ 31) : Int32.ofNat i = Int32.ofNat n ↔ i = n := by
  rw [← Int32.toInt_inj, own_nat hi, own_nat hn]; omega
theorem own_add {i n : Nat} (h : i + n < 2 ^ 31) : Int32.ofNat i + Int32.ofNat n = Int32.ofNat (i + n) :=
  own_eqNat (by rw [Jvm.Kit.i32_add (by rw [own_nat (by omega), own_nat (by omega)]; omega) (by rw [own_nat (by omega), own_nat (by omega)]; omega), own_nat (by omega), own_nat (by omega)]; omega)
end Jvm.RoadKit
namespace Jvm.RoadKit
open Sem ClassFile Op Lib Jvm.Stand Jvm.Free Jvm.LawKit
section Switch
variable {p : Program} {l : Launch} {e : Env} {R : Room} {s : State} {m : MethodId} {args : Array Value} {below : List Frame} {meth : Method} {c : Code} {T : State} {locs : List Loc} {cells slots : Nat}
theorem own_lswH (X : Stand p l e R s m args below meth c T locs cells slots) (hx : p.tables.exec = Jvm.exec) {g : JFrame} (hg : g.method = m) {k : Int32} {rest : List Value} {pc0 pc' : Nat} (hpc : g.pc = pc0)
    (hs : g.stack = .int k :: rest) {dflt : Int} {pairs : Array (Int × Int)} {len : Nat} (hd : decode c.code g.pc = .ok (.lookupswitch dflt pairs, len))
    (hsorted : (pairs.toList.zip (pairs.toList.drop 1)).all (fun (a, next) => a.1 < next.1) = true) {a off : Int} (hfind : pairs.find? (·.1 == k.toInt) = some (a, off)) (ho : 0 ≤ (pc0 : Int) + off) (hp : ((pc0 : Int) + off).toNat = pc')
    (target : State) (hr : Steps p.tables e below (T.setTop { g with pc := pc', stack := rest }) target) : Steps p.tables e below (T.setTop g) target := by
  subst hpc hp
  exact X.lookupswitchHit hx hg hs hd hsorted hfind ho target hr
theorem own_lswM (X : Stand p l e R s m args below meth c T locs cells slots) (hx : p.tables.exec = Jvm.exec) {g : JFrame} (hg : g.method = m) {k : Int32} {rest : List Value} {pc0 pc' : Nat} (hpc : g.pc = pc0)
    (hs : g.stack = .int k :: rest) {dflt : Int} {pairs : Array (Int × Int)} {len : Nat} (hd : decode c.code g.pc = .ok (.lookupswitch dflt pairs, len))
    (hsorted : (pairs.toList.zip (pairs.toList.drop 1)).all (fun (a, next) => a.1 < next.1) = true) (hfind : ∀ q ∈ pairs.toList, q.1 ≠ k.toInt) (ho : 0 ≤ (pc0 : Int) + dflt) (hp : ((pc0 : Int) + dflt).toNat = pc')
    (target : State) (hr : Steps p.tables e below (T.setTop { g with pc := pc', stack := rest }) target) : Steps p.tables e below (T.setTop g) target := by
  subst hpc hp
  exact X.lookupswitchMiss hx hg hs hd hsorted (find_miss hfind) ho target hr
theorem own_nk {x y : Int32} {z : Int} (hz : y.toInt = z) (h : ¬ x = y) : z ≠ x.toInt := fun q => h (Int32.toInt_inj.mp (q.symm.trans hz.symm))
end Switch
end Jvm.RoadKit
namespace Jvm.RoadKit
open Sem ClassFile Op Lib Jvm.Stand Jvm.Free Jvm.LawKit
section Statics
variable {Z : State} {args : Array Value} {C n d K : String} {t : Term} {a : Addr}
theorem own_sta (h : (Cond.exactly (.static C n d) K).value args Z none Z [] = some true) (hi : (Cond.initialized C).before args Z = true) (hl : (Cond.laysStatic C n d).before args Z = true) : ∃ a, (Term.static C n d).eval args Z none [] Z = some (.ref a) ∧ Sta Z Z.heap C n d (.ref a) ∧ Exa Z Z.heap a K := by
  obtain ⟨a, e⟩ := exa_v h
  exact ⟨a, e, Sta.start e (Or.inr ⟨hi, hl⟩), Exa.start e h⟩
theorem own_stfI {k : Int32} (e : t.eval args Z none [] Z = some (.ref a)) (h : (Cond.eq (.field t C n d) (.int k)).value args Z none Z [] = some true) : Fld Z Z.heap a C n d (.int k) := by
  apply Fld.start
  simp only [Cond.value, Term.eval, e, Option.bind_eq_bind, Option.bind_some] at h
  cases hf : Z.fieldOf? a C n d with
  | none => simp [hf] at h
  | some x => cases x <;> simp [hf] at h ⊢; exact h
theorem own_stfJ {k : Int64} (e : t.eval args Z none [] Z = some (.ref a)) (h : (Cond.eq (.field t C n d) (.long k)).value args Z none Z [] = some true) : Fld Z Z.heap a C n d (.long k) := by
  apply Fld.start
  simp only [Cond.value, Term.eval, e, Option.bind_eq_bind, Option.bind_some] at h
  cases hf : Z.fieldOf? a C n d with
  | none => simp [hf] at h
  | some x => cases x <;> simp [hf] at h ⊢; exact h
end Statics
end Jvm.RoadKit
namespace Jvm.RoadKit
open Sem ClassFile Op Lib Jvm.Stand Jvm.Free Jvm.LawKit
theorem own_lrem {tb : Tables} [Ours tb] {e : Env} {below : List Frame} {T target : State} {m : MethodId} {c : Code} {g : JFrame} (h : At T m c below) (hx : tb.exec = Jvm.exec) (hg : g.method = m) {x y : Int64} {rest : List Value} (hd : decode c.code g.pc = .ok (.lrem, 1)) (hs : g.stack = .long y :: .long x :: rest) (hy : y ≠ 0)
    (hr : Steps tb e below (T.setTop { g with pc := g.pc + 1, stack := .long (x % y) :: rest }) target) : Steps tb e below (T.setTop g) target :=
  XS.lrem h hx hg hd hs hy (by rw [lrem_mod]; exact hr)
theorem own_irem_mod (x y : Int32) : x - (x / y) * y = x % y := by
  apply Int32.toInt_inj.mp
  have h1 := Int32.le_toInt (x % y)
  have h2 := Int32.toInt_lt (x % y)
  rw [Int32.toInt_sub, Int32.toInt_mul, Int32.toInt_div, Int.bmod_mul_bmod, Int.sub_bmod_bmod, Int.mul_comm (x.toInt.tdiv y.toInt), ← Int.tmod_def, ← Int32.toInt_mod]
  exact Int.bmod_eq_of_le_mul_two (by omega) (by omega)
theorem own_irem {tb : Tables} [Ours tb] {e : Env} {below : List Frame} {T target : State} {m : MethodId} {c : Code} {g : JFrame} (h : At T m c below) (hx : tb.exec = Jvm.exec) (hg : g.method = m) {x y : Int32} {rest : List Value} (hd : decode c.code g.pc = .ok (.irem, 1)) (hs : g.stack = .int y :: .int x :: rest) (hy : y ≠ 0)
    (hr : Steps tb e below (T.setTop { g with pc := g.pc + 1, stack := .int (x % y) :: rest }) target) : Steps tb e below (T.setTop g) target :=
  XS.irem h hx hg hd hs hy (by rw [own_irem_mod]; exact hr)
theorem own_div1 (x : Int64) : x / 1 = x := Int64.toInt_inj.mp (by
  rw [Jvm.Kit.i64_div (fun q => by have := q.2; revert this; decide)]
  show x.toInt.tdiv 1 = x.toInt
  exact Int.tdiv_one _)
end Jvm.RoadKit
namespace Jvm.RoadKit
open Sem ClassFile Op Lib Jvm.Stand Jvm.Free Jvm.LawKit
theorem own_kx {h h' : Heap} (K : Keep h h' []) : Ext h h' := ⟨K.1, fun a c q => K.2.1 a c q nin0⟩
section Unlike
variable {Z : State} {a0 : Array Value}
theorem own_nsroot {O K : String} {n : Nat} (w : (Cond.noSuperclass O).before a0 Z = true) (wk : (Cond.instantiable K n).before a0 Z = true) (hn : O ≠ K) : NS Z O K := by
  obtain ⟨c, k, h1, h2, h3, -, -⟩ := Cond.noSuperclass_spec w
  obtain ⟨t, k', g1, g2, -⟩ := Cond.instantiable_spec wk
  have ne := ids_ne h1 g1 hn
  refine ⟨c, t, h1, g1, fun fuel => ?_⟩
  cases fuel with
  | zero => rfl
  | succ f => simp [Vm.isSubclassAux, ne, h2, h3]
theorem own_nsno {C S K : String} {n : Nat} (w : (Cond.superclass C S).before a0 Z = true) (wk : (Cond.instantiable K n).before a0 Z = true) (N : NS Z C K) (hn : C ≠ K) : ∃ c t, Z.vm.findClass C = some c ∧ Z.vm.findClass K = some t ∧ Z.vm.assignable c t = false := by
  obtain ⟨c, t, h0, g0, n3⟩ := N
  obtain ⟨p, k, kp, h1, h2, h3, h4, h5, -, h7⟩ := Cond.superclass_spec h0 w
  obtain ⟨t', k', g1, g2, g3, g4, -⟩ := Cond.instantiable_spec wk
  cases g0.symm.trans g1
  have g7 : k'.isInterface = false := by
    cases hq : k'.isInterface with
    | false => rfl
    | true => rw [hq] at g4; simp at g4
  have ne := ids_ne h0 g0 hn
  refine ⟨c, t, h0, g0, ?_⟩
  show Z.vm.assignableAux (255 + 1) c t = false
  simp [Vm.assignableAux, ne, h2, g2, h5, g3, g7, Vm.isSubclass, n3]
end Unlike
end Jvm.RoadKit
namespace Jvm.RoadKit
open Sem ClassFile Op Lib Jvm.Stand Jvm.Free Jvm.LawKit
section Clone
variable {p : Program} {l : Launch} {e : Env} {R : Room} {s : State} {m : MethodId} {args : Array Value} {below : List Frame} {meth : Method} {c : Code} {T : State} {locs : List Loc} {cells slots : Nat} {Z : State} {a0 : Array Value} {h : Heap} {a : Addr} {ty : FieldType} {n : Nat} {f : Nat → Int32}
theorem own_clone (X : Stand p l e R s m args below meth c T locs cells slots) (hx : p.tables.exec = Jvm.exec) (hZ : Z.Warmed39 s.vm) {own ad : String} {index : Nat} (hown : s.vm.findClass own = some m.cls)
    (w1 : (Cond.methodLink own index ⟨ad, "clone", "()Ljava/lang/Object;"⟩).before a0 Z = true) (w2 : (Cond.sameMethod ad "java/lang/Object" "clone" "()Ljava/lang/Object;").before a0 Z = true) (w3 : (Cond.native ⟨"java/lang/Object", "clone", "()Ljava/lang/Object;"⟩).before a0 Z = true)
    (w4 : (Cond.instanceMethod ⟨"java/lang/Object", "clone", "()Ljava/lang/Object;"⟩).before a0 Z = true) (w5 : (Cond.selects ad ⟨ad, "clone", "()Ljava/lang/Object;"⟩ ⟨"java/lang/Object", "clone", "()Ljava/lang/Object;"⟩).before a0 Z = true) (w6 : (Cond.castable ad "java/lang/Cloneable").before a0 Z = true)
    (eT : T.heap = h) (A : IA Z h a ty n f) (E : Exa Z h a ad) {g : JFrame} (hg : g.method = m) (hsize : g.locals.size = c.maxLocals) {rest : List Value} (hs : g.stack = .ref a :: rest) (hd : decode c.code g.pc = .ok (.invokevirtual index, 3))
    (hf : 1 ≤ R.frames) {W cap : Nat} (hW : 2 * g.monitorRoom + (rest.map fun v => v.category).sum ≤ W) (hl : W + 14 ≤ R.locals) (hcap : n ≤ cap) (hc : cells + 1 ≤ R.cells) (hsl : slots + cap ≤ R.slots) :
    ∃ T' h', Stand p l e R s m args below meth c T' locs (cells + 1) (slots + cap) ∧ T'.heap = h' ∧ Ext h h' ∧ IA Z h' h.size ty n f ∧ Exa Z h' h.size ad ∧
      ∀ target, Steps p.tables e below (T'.setTop { g with pc := g.pc + 3, stack := .ref h.size :: rest }) target → Steps p.tables e below (T.setTop g) target := by
  obtain ⟨cl, A, S, M, H⟩ := A
  have FC : FitC Z cl := fitC_of A fun i hi v hv => by
    rw [S] at hi
    rw [(H i hi).1] at hv
    cases hv
    exact (H i hi).2
  obtain ⟨T', h', X', e', ex, A', E', st⟩ := cloneA X hx hZ hown w1 w2 w3 w4 w5 w6 eT A E FC hg hsize hs hd hf hW hl (by rw [S]; exact hcap) hc hsl
  exact ⟨T', h', X', e', ex, ⟨cloneOf cl, A', S, M, H⟩, E', st⟩
end Clone
theorem own_sub {i n : Nat} (h : n ≤ i) (hi : i < 2 ^ 31) : Int32.ofNat i - Int32.ofNat n = Int32.ofNat (i - n) :=
  own_eqNat (by rw [Jvm.Kit.i32_sub (by rw [own_nat (by omega), own_nat (by omega)]; omega) (by rw [own_nat (by omega), own_nat (by omega)]; omega), own_nat (by omega), own_nat (by omega)]; omega)
end Jvm.RoadKit
namespace Jvm.RoadKit
open Sem ClassFile Op Lib Jvm.Stand Jvm.Free Jvm.LawKit
theorem own_stak {Z : State} {h h' : Heap} {C n d D : String} {v : Value} {a : Addr} (F : Sta Z h C n d v) (K : Keep h h' [a]) (E : Exa Z h a D) : Sta Z h' C n d v := by
  obtain ⟨cf, i, k, f, st, cell, h1, h2, h3, h4, h5, h6, h7⟩ := F
  obtain ⟨cell', k', e1, -, -, e4, -⟩ := E
  have ne : st ≠ a := fun q => by
    subst q
    cases h5.symm.trans e1
    rw [e4] at h6
    cases h6
  exact ⟨cf, i, k, f, st, cell, h1, h2, h3, h4, K.2.1 _ _ h5 (ninS ne nin0), h6, h7⟩
end Jvm.RoadKit
namespace Jvm.Pilot.@@N@@
open Jvm Jvm.ClassFile Sem Op Lib Jvm.Free Jvm.Stand Jvm.LawKit Jvm.RoadKit Bundle Jvm.Pilot.@@N@@.Jvm.D
theorem pd_0 : parseMethodDescriptor "(IIIII)B" = some ⟨[.int, .int, .int, .int, .int], some .byte⟩ := by decide +kernel
theorem pd_1 : parseMethodDescriptor "(IIZIIII)B" = some ⟨[.int, .int, .boolean, .int, .int, .int, .int], some .byte⟩ := by decide +kernel
theorem pd_2 : parseMethodDescriptor "([B)[B" = some ⟨[(.array .byte)], some (.array .byte)⟩ := by decide +kernel
theorem pd_3 : parseMethodDescriptor "(IIZ[B[BIIII)Z" = some ⟨[.int, .int, .boolean, (.array .byte), (.array .byte), .int, .int, .int, .int], some .boolean⟩ := by decide +kernel
theorem d2_0 : decode method_2_code 0 = .ok (.iload_n 0, 1) := by decide +kernel
theorem d2_1 : decode method_2_code 1 = .ok (.ifCond .ne 6, 3) := by decide +kernel
theorem d2_4 : decode method_2_code 4 = .ok (.iload_n 1, 1) := by decide +kernel
theorem d2_5 : decode method_2_code 5 = .ok (.i2b, 1) := by decide +kernel
theorem d2_6 : decode method_2_code 6 = .ok (.ireturn, 1) := by decide +kernel
theorem d2_7 : decode method_2_code 7 = .ok (.iload_n 0, 1) := by decide +kernel
theorem d2_8 : decode method_2_code 8 = .ok (.iconst 1, 1) := by decide +kernel
theorem d2_9 : decode method_2_code 9 = .ok (.if_icmp .ne 6, 3) := by decide +kernel
theorem d2_12 : decode method_2_code 12 = .ok (.iload_n 2, 1) := by decide +kernel
theorem d2_13 : decode method_2_code 13 = .ok (.i2b, 1) := by decide +kernel
theorem d2_14 : decode method_2_code 14 = .ok (.ireturn, 1) := by decide +kernel
theorem d2_15 : decode method_2_code 15 = .ok (.iload_n 0, 1) := by decide +kernel
theorem d2_16 : decode method_2_code 16 = .ok (.iconst 2, 1) := by decide +kernel
theorem d2_17 : decode method_2_code 17 = .ok (.if_icmp .ne 6, 3) := by decide +kernel
theorem d2_20 : decode method_2_code 20 = .ok (.iload_n 3, 1) := by decide +kernel
theorem d2_21 : decode method_2_code 21 = .ok (.i2b, 1) := by decide +kernel
theorem d2_22 : decode method_2_code 22 = .ok (.ireturn, 1) := by decide +kernel
theorem d2_23 : decode method_2_code 23 = .ok (.iload 4, 2) := by decide +kernel
theorem d2_25 : decode method_2_code 25 = .ok (.i2b, 1) := by decide +kernel
theorem d2_26 : decode method_2_code 26 = .ok (.ireturn, 1) := by decide +kernel
theorem pn_2 : plainName "org/cardprobe/CheckCharacterWithWrongCheckPinLaw" = true := by first | (simp [plainName, overriddenIn]; done) | decide +kernel
theorem ef_rm2 (m : MethodId) (x0 : Int32) (x1 : Int32) (x2 : Int32) (x3 : Int32) (x4 : Int32) : entryFrame m #[(.int x0), (.int x1), (.int x2), (.int x3), (.int x4)] 5 = mkF m 0 #[.val (.int x0), .val (.int x1), .val (.int x2), .val (.int x3), .val (.int x4)] [] := by first | (simp [entryFrame, mkF, argsToLocals, Value.category]; done) | rfl
def f2 (p0 : Int32) (p1 : Int32) (p2 : Int32) (p3 : Int32) (p4 : Int32) : Int32 := (if p0 = (0 : Int32) then (nar .byte (p1.toInt8.toInt32)) else (if p0 = (1 : Int32) then (nar .byte (p2.toInt8.toInt32)) else (if p0 = (2 : Int32) then (nar .byte (p3.toInt8.toInt32)) else (nar .byte (p4.toInt8.toInt32)))))
set_option maxRecDepth 65536 in
set_option maxHeartbeats 40000000 in
theorem rm2 (l : Launch) (Z : State) (a0 : Array Value) (hw : ∀ d ∈ tables_1, d.before a0 Z = true) (ws : List Jvm.Cond) (p0 : Int32) (p1 : Int32) (p2 : Int32) (p3 : Int32) (p4 : Int32) (h0 : Heap) (n0 : Nat) (Z0 : n0 ≤ h0.size) :
    MetFree l (⟨"org/cardprobe/CheckCharacterWithWrongCheckPinLaw", "pick", "(IIIII)B"⟩ : MethodName) (head1 (Jvm.Cond.code (⟨"org/cardprobe/CheckCharacterWithWrongCheckPinLaw", "pick", "(IIIII)B"⟩ : MethodName) method_2_code 5 (some .byte) :: ws) ({ frames := 0, cells := 0, slots := 0, locals := 0 } : Room)) (fun a U => a = #[(.int p0), (.int p1), (.int p2), (.int p3), (.int p4)] ∧ Z.Warmed39 U.vm ∧ U.heap = h0) (fun _ _ _ _ _ => True) (fun _ U o U' => ∃ v L, o = .returned v ∧ Qp (.int (f2 p0 p1 p2 p3 p4)) h0 n0 v U'.heap L ∧ FrameEnd U o U' L ({ frames := 0, cells := 0, slots := 0, locals := 0 } : Room).cells ({ frames := 0, cells := 0, slots := 0, locals := 0 } : Room).slots) := by
  refine MetFree.of_bodySF (plainFor_of_name pn_2) hisR ?_
  intro p e s m args below meth c s₁ Bd hml0 hP hK
  obtain ⟨rfl, hZ, hh⟩ := hP
  have hx := Bd.exec
  have hby := Bd.bytes
  have hml : c.maxLocals = 5 := hml0
  have hown : s.vm.findClass "org/cardprobe/CheckCharacterWithWrongCheckPinLaw" = some m.cls := findClass_of_methodNamed Bd.named
  have hnm := (name_of_methodNamed Bd.named Bd.method).1
  have hlk : meth.locks = false := BodyLoose.notSynchronized Bd
  have X0 : Stand p l e ({ frames := 0, cells := 0, slots := 0, locals := 0 } : Room) s m #[(.int p0), (.int p1), (.int p2), (.int p3), (.int p4)] below meth c s₁ [] 0 0 := Stand.of_body Bd
  have e0 : s₁.heap = h0 := by rw [← hh, Bd.state]; rfl
  have N0 := Fr.nil n0
  have K0 : Keep h0 h0 [] := Keep.refl _ _
  show Goes p e below s (Qp (.int (f2 p0 p1 p2 p3 p4)) h0 n0) ({ frames := 0, cells := 0, slots := 0, locals := 0 } : Room).cells ({ frames := 0, cells := 0, slots := 0, locals := 0 } : Room).slots (s₁.setTop (entryFrame m #[(.int p0), (.int p1), (.int p2), (.int p3), (.int p4)] 5))
  rw [ef_rm2]
  show Goes p e below s _ _ _ (s₁.setTop (mkF m 0 #[.val (.int p0), .val (.int p1), .val (.int p2), .val (.int p3), .val (.int p4)] []))
  refine Goes.go (fun _ k => XS.iloadN X0.here hx rfl (hb hby d2_0) rfl  k) ?_
  show Goes p e below s _ _ _ (s₁.setTop (mkF m 1 #[.val (.int p0), .val (.int p1), .val (.int p2), .val (.int p3), .val (.int p4)] [(.int p0)]))
  by_cases hc1_1 : p0 = (0 : Int32)
  · skip
    refine Goes.qi (if_pos hc1_1) ?_
    refine Goes.go (fun _ k => XS.ifNo X0.here hx rfl (hb hby d2_1) rfl ((if0 _ _).trans (teq hc1_1).2) k) ?_
    show Goes p e below s _ _ _ (s₁.setTop (mkF m 4 #[.val (.int p0), .val (.int p1), .val (.int p2), .val (.int p3), .val (.int p4)] []))
    refine Goes.go (fun _ k => XS.iloadN X0.here hx rfl (hb hby d2_4) rfl  k) ?_
    show Goes p e below s _ _ _ (s₁.setTop (mkF m 5 #[.val (.int p0), .val (.int p1), .val (.int p2), .val (.int p3), .val (.int p4)] [(.int p1)]))
    refine Goes.go (fun _ k => XS.i2b X0.here hx rfl (hb hby d2_5) rfl k) ?_
    show Goes p e below s _ _ _ (s₁.setTop (mkF m 6 #[.val (.int p0), .val (.int p1), .val (.int p2), .val (.int p3), .val (.int p4)] [(.int (p1.toInt8.toInt32))]))
    refine Goes.retN .byte X0 hx hlk Bd.returns (by simp) (hb hby d2_6) ?_ (by decide) (by decide)
    exact ⟨by rfl, N0, e0⟩
  · skip
    refine Goes.qi (if_neg hc1_1) ?_
    refine Goes.go (fun _ k => XS.ifYes X0.here hx rfl (pc0 := 1) (pc' := 7) rfl (hb hby d2_1) rfl ((if0 _ _).trans (feq hc1_1).2) (by decide) (by decide) k) ?_
    show Goes p e below s _ _ _ (s₁.setTop (mkF m 7 #[.val (.int p0), .val (.int p1), .val (.int p2), .val (.int p3), .val (.int p4)] []))
    refine Goes.go (fun _ k => XS.iloadN X0.here hx rfl (hb hby d2_7) rfl  k) ?_
    show Goes p e below s _ _ _ (s₁.setTop (mkF m 8 #[.val (.int p0), .val (.int p1), .val (.int p2), .val (.int p3), .val (.int p4)] [(.int p0)]))
    refine Goes.go (fun _ k => XS.iconst X0.here hx rfl (hb hby d2_8) k) ?_
    show Goes p e below s _ _ _ (s₁.setTop (mkF m 9 #[.val (.int p0), .val (.int p1), .val (.int p2), .val (.int p3), .val (.int p4)] [(.int (1 : Int32)), (.int p0)]))
    by_cases hc9_2 : p0 = (1 : Int32)
    · skip
      refine Goes.qi (if_pos hc9_2) ?_
      refine Goes.go (fun _ k => XS.icmpNo X0.here hx rfl (hb hby d2_9) rfl (teq hc9_2).2 k) ?_
      show Goes p e below s _ _ _ (s₁.setTop (mkF m 12 #[.val (.int p0), .val (.int p1), .val (.int p2), .val (.int p3), .val (.int p4)] []))
      refine Goes.go (fun _ k => XS.iloadN X0.here hx rfl (hb hby d2_12) rfl  k) ?_
      show Goes p e below s _ _ _ (s₁.setTop (mkF m 13 #[.val (.int p0), .val (.int p1), .val (.int p2), .val (.int p3), .val (.int p4)] [(.int p2)]))
      refine Goes.go (fun _ k => XS.i2b X0.here hx rfl (hb hby d2_13) rfl k) ?_
      show Goes p e below s _ _ _ (s₁.setTop (mkF m 14 #[.val (.int p0), .val (.int p1), .val (.int p2), .val (.int p3), .val (.int p4)] [(.int (p2.toInt8.toInt32))]))
      refine Goes.retN .byte X0 hx hlk Bd.returns (by simp) (hb hby d2_14) ?_ (by decide) (by decide)
      exact ⟨by rfl, N0, e0⟩
    · skip
      refine Goes.qi (if_neg hc9_2) ?_
      refine Goes.go (fun _ k => XS.icmpYes X0.here hx rfl (pc0 := 9) (pc' := 15) rfl (hb hby d2_9) rfl (feq hc9_2).2 (by decide) (by decide) k) ?_
      show Goes p e below s _ _ _ (s₁.setTop (mkF m 15 #[.val (.int p0), .val (.int p1), .val (.int p2), .val (.int p3), .val (.int p4)] []))
      refine Goes.go (fun _ k => XS.iloadN X0.here hx rfl (hb hby d2_15) rfl  k) ?_
      show Goes p e below s _ _ _ (s₁.setTop (mkF m 16 #[.val (.int p0), .val (.int p1), .val (.int p2), .val (.int p3), .val (.int p4)] [(.int p0)]))
      refine Goes.go (fun _ k => XS.iconst X0.here hx rfl (hb hby d2_16) k) ?_
      show Goes p e below s _ _ _ (s₁.setTop (mkF m 17 #[.val (.int p0), .val (.int p1), .val (.int p2), .val (.int p3), .val (.int p4)] [(.int (2 : Int32)), (.int p0)]))
      by_cases hc17_3 : p0 = (2 : Int32)
      · skip
        refine Goes.qi (if_pos hc17_3) ?_
        refine Goes.go (fun _ k => XS.icmpNo X0.here hx rfl (hb hby d2_17) rfl (teq hc17_3).2 k) ?_
        show Goes p e below s _ _ _ (s₁.setTop (mkF m 20 #[.val (.int p0), .val (.int p1), .val (.int p2), .val (.int p3), .val (.int p4)] []))
        refine Goes.go (fun _ k => XS.iloadN X0.here hx rfl (hb hby d2_20) rfl  k) ?_
        show Goes p e below s _ _ _ (s₁.setTop (mkF m 21 #[.val (.int p0), .val (.int p1), .val (.int p2), .val (.int p3), .val (.int p4)] [(.int p3)]))
        refine Goes.go (fun _ k => XS.i2b X0.here hx rfl (hb hby d2_21) rfl k) ?_
        show Goes p e below s _ _ _ (s₁.setTop (mkF m 22 #[.val (.int p0), .val (.int p1), .val (.int p2), .val (.int p3), .val (.int p4)] [(.int (p3.toInt8.toInt32))]))
        refine Goes.retN .byte X0 hx hlk Bd.returns (by simp) (hb hby d2_22) ?_ (by decide) (by decide)
        exact ⟨by rfl, N0, e0⟩
      · skip
        refine Goes.qi (if_neg hc17_3) ?_
        refine Goes.go (fun _ k => XS.icmpYes X0.here hx rfl (pc0 := 17) (pc' := 23) rfl (hb hby d2_17) rfl (feq hc17_3).2 (by decide) (by decide) k) ?_
        show Goes p e below s _ _ _ (s₁.setTop (mkF m 23 #[.val (.int p0), .val (.int p1), .val (.int p2), .val (.int p3), .val (.int p4)] []))
        refine Goes.go (fun _ k => XS.iload X0.here hx rfl (hb hby d2_23) rfl  k) ?_
        show Goes p e below s _ _ _ (s₁.setTop (mkF m 25 #[.val (.int p0), .val (.int p1), .val (.int p2), .val (.int p3), .val (.int p4)] [(.int p4)]))
        refine Goes.go (fun _ k => XS.i2b X0.here hx rfl (hb hby d2_25) rfl k) ?_
        show Goes p e below s _ _ _ (s₁.setTop (mkF m 26 #[.val (.int p0), .val (.int p1), .val (.int p2), .val (.int p3), .val (.int p4)] [(.int (p4.toInt8.toInt32))]))
        refine Goes.retN .byte X0 hx hlk Bd.returns (by simp) (hb hby d2_26) ?_ (by decide) (by decide)
        exact ⟨by rfl, N0, e0⟩
theorem d1_0 : decode method_3_code 0 = .ok (.iload_n 2, 1) := by decide +kernel
theorem d1_1 : decode method_3_code 1 = .ok (.ifCond .eq 12, 3) := by decide +kernel
theorem d1_4 : decode method_3_code 4 = .ok (.iload_n 0, 1) := by decide +kernel
theorem d1_5 : decode method_3_code 5 = .ok (.iload_n 1, 1) := by decide +kernel
theorem d1_6 : decode method_3_code 6 = .ok (.iconst 1, 1) := by decide +kernel
theorem d1_7 : decode method_3_code 7 = .ok (.isub, 1) := by decide +kernel
theorem d1_8 : decode method_3_code 8 = .ok (.if_icmp .ne 5, 3) := by decide +kernel
theorem d1_11 : decode method_3_code 11 = .ok (.iconst 0, 1) := by decide +kernel
theorem d1_12 : decode method_3_code 12 = .ok (.ireturn, 1) := by decide +kernel
theorem d1_13 : decode method_3_code 13 = .ok (.iload_n 0, 1) := by decide +kernel
theorem d1_14 : decode method_3_code 14 = .ok (.iload_n 3, 1) := by decide +kernel
theorem d1_15 : decode method_3_code 15 = .ok (.iload 4, 2) := by decide +kernel
theorem d1_17 : decode method_3_code 17 = .ok (.iload 5, 2) := by decide +kernel
theorem d1_19 : decode method_3_code 19 = .ok (.iload 6, 2) := by decide +kernel
theorem d1_21 : decode method_3_code 21 = .ok (.invokestatic 7, 3) := by decide +kernel
theorem d1_24 : decode method_3_code 24 = .ok (.ireturn, 1) := by decide +kernel
theorem pn_1 : plainName "org/cardprobe/CheckCharacterWithWrongCheckPinLaw" = true := by first | (simp [plainName, overriddenIn]; done) | decide +kernel
theorem ef_rm1 (m : MethodId) (x0 : Int32) (x1 : Int32) (x2 : Int32) (x3 : Int32) (x4 : Int32) (x5 : Int32) (x6 : Int32) : entryFrame m #[(.int x0), (.int x1), (.int x2), (.int x3), (.int x4), (.int x5), (.int x6)] 7 = mkF m 0 #[.val (.int x0), .val (.int x1), .val (.int x2), .val (.int x3), .val (.int x4), .val (.int x5), .val (.int x6)] [] := by first | (simp [entryFrame, mkF, argsToLocals, Value.category]; done) | rfl
def f1_13 (p0 : Int32) (p1 : Int32) (p2 : Int32) (p3 : Int32) (p4 : Int32) (p5 : Int32) (p6 : Int32) : Int32 := (nar .byte (f2 p0 p3 p4 p5 p6))
def f1 (p0 : Int32) (p1 : Int32) (p2 : Int32) (p3 : Int32) (p4 : Int32) (p5 : Int32) (p6 : Int32) : Int32 := (if p2 = (0 : Int32) then (f1_13 p0 p1 p2 p3 p4 p5 p6) else (if p0 = (p1 - (1 : Int32)) then (0 : Int32) else (f1_13 p0 p1 p2 p3 p4 p5 p6)))
set_option maxRecDepth 65536 in
set_option maxHeartbeats 40000000 in
theorem rm1 (l : Launch) (Z : State) (a0 : Array Value) (hw : ∀ d ∈ tables_1, d.before a0 Z = true) (ws : List Jvm.Cond) (p0 : Int32) (p1 : Int32) (p2 : Int32) (p3 : Int32) (p4 : Int32) (p5 : Int32) (p6 : Int32) (h0 : Heap) (n0 : Nat) (Z0 : n0 ≤ h0.size) :
    MetFree l (⟨"org/cardprobe/CheckCharacterWithWrongCheckPinLaw", "orig", "(IIZIIII)B"⟩ : MethodName) (head1 (Jvm.Cond.code (⟨"org/cardprobe/CheckCharacterWithWrongCheckPinLaw", "orig", "(IIZIIII)B"⟩ : MethodName) method_3_code 7 (some .byte) :: ws) ({ frames := 1, cells := 0, slots := 0, locals := 16 } : Room)) (fun a U => a = #[(.int p0), (.int p1), (.int p2), (.int p3), (.int p4), (.int p5), (.int p6)] ∧ Z.Warmed39 U.vm ∧ U.heap = h0) (fun _ _ _ _ _ => True) (fun _ U o U' => ∃ v L, o = .returned v ∧ Qp (.int (f1 p0 p1 p2 p3 p4 p5 p6)) h0 n0 v U'.heap L ∧ FrameEnd U o U' L ({ frames := 1, cells := 0, slots := 0, locals := 16 } : Room).cells ({ frames := 1, cells := 0, slots := 0, locals := 16 } : Room).slots) := by
  refine MetFree.of_bodySF (plainFor_of_name pn_1) hisR ?_
  intro p e s m args below meth c s₁ Bd hml0 hP hK
  obtain ⟨rfl, hZ, hh⟩ := hP
  have hx := Bd.exec
  have hby := Bd.bytes
  have hml : c.maxLocals = 7 := hml0
  have hown : s.vm.findClass "org/cardprobe/CheckCharacterWithWrongCheckPinLaw" = some m.cls := findClass_of_methodNamed Bd.named
  have hnm := (name_of_methodNamed Bd.named Bd.method).1
  have hlk : meth.locks = false := BodyLoose.notSynchronized Bd
  have X0 : Stand p l e ({ frames := 1, cells := 0, slots := 0, locals := 16 } : Room) s m #[(.int p0), (.int p1), (.int p2), (.int p3), (.int p4), (.int p5), (.int p6)] below meth c s₁ [] 0 0 := Stand.of_body Bd
  have e0 : s₁.heap = h0 := by rw [← hh, Bd.state]; rfl
  have N0 := Fr.nil n0
  have K0 : Keep h0 h0 [] := Keep.refl _ _
  show Goes p e below s (Qp (.int (f1 p0 p1 p2 p3 p4 p5 p6)) h0 n0) ({ frames := 1, cells := 0, slots := 0, locals := 16 } : Room).cells ({ frames := 1, cells := 0, slots := 0, locals := 16 } : Room).slots (s₁.setTop (entryFrame m #[(.int p0), (.int p1), (.int p2), (.int p3), (.int p4), (.int p5), (.int p6)] 7))
  rw [ef_rm1]
  have J13 : ∀ {TJ : State} {lj : List Loc} (XJ : Stand p l e ({ frames := 1, cells := 0, slots := 0, locals := 16 } : Room) s m #[(.int p0), (.int p1), (.int p2), (.int p3), (.int p4), (.int p5), (.int p6)] below meth c TJ lj 0 0) (eJ : TJ.heap = h0) (NJ : Fr n0 lj), Goes p e below s (Qp (.int (f1_13 p0 p1 p2 p3 p4 p5 p6)) h0 n0) ({ frames := 1, cells := 0, slots := 0, locals := 16 } : Room).cells ({ frames := 1, cells := 0, slots := 0, locals := 16 } : Room).slots (TJ.setTop (mkF m 13 #[.val (.int p0), .val (.int p1), .val (.int p2), .val (.int p3), .val (.int p4), .val (.int p5), .val (.int p6)] [])) := by
    intro TJ lj XJ eJ NJ
    show Goes p e below s _ _ _ (TJ.setTop (mkF m 13 #[.val (.int p0), .val (.int p1), .val (.int p2), .val (.int p3), .val (.int p4), .val (.int p5), .val (.int p6)] []))
    refine Goes.go (fun _ k => XS.iloadN XJ.here hx rfl (hb hby d1_13) rfl  k) ?_
    show Goes p e below s _ _ _ (TJ.setTop (mkF m 14 #[.val (.int p0), .val (.int p1), .val (.int p2), .val (.int p3), .val (.int p4), .val (.int p5), .val (.int p6)] [(.int p0)]))
    refine Goes.go (fun _ k => XS.iloadN XJ.here hx rfl (hb hby d1_14) rfl  k) ?_
    show Goes p e below s _ _ _ (TJ.setTop (mkF m 15 #[.val (.int p0), .val (.int p1), .val (.int p2), .val (.int p3), .val (.int p4), .val (.int p5), .val (.int p6)] [(.int p3), (.int p0)]))
    refine Goes.go (fun _ k => XS.iload XJ.here hx rfl (hb hby d1_15) rfl  k) ?_
    show Goes p e below s _ _ _ (TJ.setTop (mkF m 17 #[.val (.int p0), .val (.int p1), .val (.int p2), .val (.int p3), .val (.int p4), .val (.int p5), .val (.int p6)] [(.int p4), (.int p3), (.int p0)]))
    refine Goes.go (fun _ k => XS.iload XJ.here hx rfl (hb hby d1_17) rfl  k) ?_
    show Goes p e below s _ _ _ (TJ.setTop (mkF m 19 #[.val (.int p0), .val (.int p1), .val (.int p2), .val (.int p3), .val (.int p4), .val (.int p5), .val (.int p6)] [(.int p5), (.int p4), (.int p3), (.int p0)]))
    refine Goes.go (fun _ k => XS.iload XJ.here hx rfl (hb hby d1_19) rfl  k) ?_
    show Goes p e below s _ _ _ (TJ.setTop (mkF m 21 #[.val (.int p0), .val (.int p1), .val (.int p2), .val (.int p3), .val (.int p4), .val (.int p5), .val (.int p6)] [(.int p6), (.int p5), (.int p4), (.int p3), (.int p0)]))
    obtain ⟨_, _, ⟨T1, L1, k1, n1⟩, -, X1, ⟨Lc1, hQ1, l1, y1, z1⟩, st1⟩ := Jvm.LawKit.callS XJ hx (y := (⟨"org/cardprobe/CheckCharacterWithWrongCheckPinLaw", "pick", "(IIIII)B"⟩ : MethodName)) hown (mvT hZ (hw _ (List.mem_of_getElem? (i := 5) rfl))) (mvT hZ (hw _ (List.mem_of_getElem? (i := 6) rfl))) (mvT hZ (hw _ (List.mem_of_getElem? (i := 3) rfl))) (mvT hZ (hw _ (List.mem_of_getElem? (i := 7) rfl))) (by decide) (backOf (W := 0) (rm2 l Z a0 hw [] p0 p3 p4 p5 p6 h0 n0 Z0 ) hZ (hw _ (List.mem_of_getElem? (i := 7) rfl)) (hw _ (List.mem_of_getElem? (i := 3) rfl)) (by decide) (by decide)) (g := (mkF m 21 #[.val (.int p0), .val (.int p1), .val (.int p2), .val (.int p3), .val (.int p4), .val (.int p5), .val (.int p6)] [(.int p6), (.int p5), (.int p4), (.int p3), (.int p0)])) rfl (by rw [hml]; rfl) (argsL := [(.int p0), (.int p3), (.int p4), (.int p5), (.int p6)]) (rest := []) (lenOf pd_0 rfl) rfl (by show 2 * 0 + _ ≤ _; exact Nat.le_of_eq rfl) (hb hby d1_21) (fun _ _ => ⟨rfl, eJ, (by decide : 0 + 0 ≤ _), (by decide : 0 + 0 ≤ _)⟩)
    dsimp only [Pt.U, Pt.locs, Pt.cells, Pt.slots] at X1 l1 y1 z1 st1 hQ1
    subst l1 y1 z1
    obtain ⟨rfl, N1q, e1⟩ := hQ1
    have N1 := Fr.app NJ N1q
    refine Goes.go st1 ?_
    show Goes p e below s _ _ _ (T1.setTop (mkF m 24 #[.val (.int p0), .val (.int p1), .val (.int p2), .val (.int p3), .val (.int p4), .val (.int p5), .val (.int p6)] [(.int (f2 p0 p3 p4 p5 p6))]))
    refine Goes.retN .byte X1 hx hlk Bd.returns (by simp) (hb hby d1_24) ?_ (by decide) (by decide)
    exact ⟨by rfl, N1, e1⟩
  show Goes p e below s _ _ _ (s₁.setTop (mkF m 0 #[.val (.int p0), .val (.int p1), .val (.int p2), .val (.int p3), .val (.int p4), .val (.int p5), .val (.int p6)] []))
  refine Goes.go (fun _ k => XS.iloadN X0.here hx rfl (hb hby d1_0) rfl  k) ?_
  show Goes p e below s _ _ _ (s₁.setTop (mkF m 1 #[.val (.int p0), .val (.int p1), .val (.int p2), .val (.int p3), .val (.int p4), .val (.int p5), .val (.int p6)] [(.int p2)]))
  by_cases hc1_2 : p2 = (0 : Int32)
  · skip
    refine Goes.qi (if_pos hc1_2) ?_
    refine Goes.go (fun _ k => XS.ifYes X0.here hx rfl (pc0 := 1) (pc' := 13) rfl (hb hby d1_1) rfl ((if0 _ _).trans (teq hc1_2).1) (by decide) (by decide) k) ?_
    exact J13 X0 e0 N0
  · skip
    refine Goes.qi (if_neg hc1_2) ?_
    refine Goes.go (fun _ k => XS.ifNo X0.here hx rfl (hb hby d1_1) rfl ((if0 _ _).trans (feq hc1_2).1) k) ?_
    show Goes p e below s _ _ _ (s₁.setTop (mkF m 4 #[.val (.int p0), .val (.int p1), .val (.int p2), .val (.int p3), .val (.int p4), .val (.int p5), .val (.int p6)] []))
    refine Goes.go (fun _ k => XS.iloadN X0.here hx rfl (hb hby d1_4) rfl  k) ?_
    show Goes p e below s _ _ _ (s₁.setTop (mkF m 5 #[.val (.int p0), .val (.int p1), .val (.int p2), .val (.int p3), .val (.int p4), .val (.int p5), .val (.int p6)] [(.int p0)]))
    refine Goes.go (fun _ k => XS.iloadN X0.here hx rfl (hb hby d1_5) rfl  k) ?_
    show Goes p e below s _ _ _ (s₁.setTop (mkF m 6 #[.val (.int p0), .val (.int p1), .val (.int p2), .val (.int p3), .val (.int p4), .val (.int p5), .val (.int p6)] [(.int p1), (.int p0)]))
    refine Goes.go (fun _ k => XS.iconst X0.here hx rfl (hb hby d1_6) k) ?_
    show Goes p e below s _ _ _ (s₁.setTop (mkF m 7 #[.val (.int p0), .val (.int p1), .val (.int p2), .val (.int p3), .val (.int p4), .val (.int p5), .val (.int p6)] [(.int (1 : Int32)), (.int p1), (.int p0)]))
    refine Goes.go (fun _ k => XS.isub X0.here hx rfl (hb hby d1_7) rfl k) ?_
    show Goes p e below s _ _ _ (s₁.setTop (mkF m 8 #[.val (.int p0), .val (.int p1), .val (.int p2), .val (.int p3), .val (.int p4), .val (.int p5), .val (.int p6)] [(.int (p1 - (1 : Int32))), (.int p0)]))
    by_cases hc8_3 : p0 = (p1 - (1 : Int32))
    · skip
      refine Goes.qi (if_pos hc8_3) ?_
      refine Goes.go (fun _ k => XS.icmpNo X0.here hx rfl (hb hby d1_8) rfl (teq hc8_3).2 k) ?_
      show Goes p e below s _ _ _ (s₁.setTop (mkF m 11 #[.val (.int p0), .val (.int p1), .val (.int p2), .val (.int p3), .val (.int p4), .val (.int p5), .val (.int p6)] []))
      refine Goes.go (fun _ k => XS.iconst X0.here hx rfl (hb hby d1_11) k) ?_
      show Goes p e below s _ _ _ (s₁.setTop (mkF m 12 #[.val (.int p0), .val (.int p1), .val (.int p2), .val (.int p3), .val (.int p4), .val (.int p5), .val (.int p6)] [(.int (0 : Int32))]))
      refine Goes.retN .byte X0 hx hlk Bd.returns (by simp) (hb hby d1_12) ?_ (by decide) (by decide)
      exact ⟨by rfl, N0, e0⟩
    · skip
      refine Goes.qi (if_neg hc8_3) ?_
      refine Goes.go (fun _ k => XS.icmpYes X0.here hx rfl (pc0 := 8) (pc' := 13) rfl (hb hby d1_8) rfl (feq hc8_3).2 (by decide) (by decide) k) ?_
      exact J13 X0 e0 N0
theorem d3_0 : decode prog_37_method_3_code 0 = .ok (.aload_n 0, 1) := by decide +kernel
theorem d3_1 : decode prog_37_method_3_code 1 = .ok (.invokevirtual 7, 3) := by decide +kernel
theorem d3_4 : decode prog_37_method_3_code 4 = .ok (.checkcast 8, 3) := by decide +kernel
theorem d3_7 : decode prog_37_method_3_code 7 = .ok (.astore_n 1, 1) := by decide +kernel
theorem d3_8 : decode prog_37_method_3_code 8 = .ok (.aload_n 1, 1) := by decide +kernel
theorem d3_9 : decode prog_37_method_3_code 9 = .ok (.arraylength, 1) := by decide +kernel
theorem d3_10 : decode prog_37_method_3_code 10 = .ok (.iconst 1, 1) := by decide +kernel
theorem d3_11 : decode prog_37_method_3_code 11 = .ok (.isub, 1) := by decide +kernel
theorem d3_12 : decode prog_37_method_3_code 12 = .ok (.istore_n 2, 1) := by decide +kernel
theorem d3_13 : decode prog_37_method_3_code 13 = .ok (.aload_n 1, 1) := by decide +kernel
theorem d3_14 : decode prog_37_method_3_code 14 = .ok (.iload_n 2, 1) := by decide +kernel
theorem d3_15 : decode prog_37_method_3_code 15 = .ok (.aload_n 0, 1) := by decide +kernel
theorem d3_16 : decode prog_37_method_3_code 16 = .ok (.iload_n 2, 1) := by decide +kernel
theorem d3_17 : decode prog_37_method_3_code 17 = .ok (.baload, 1) := by decide +kernel
theorem d3_18 : decode prog_37_method_3_code 18 = .ok (.ifCond .ne 9, 3) := by decide +kernel
theorem d3_21 : decode prog_37_method_3_code 21 = .ok (.sipush 255, 3) := by decide +kernel
theorem d3_24 : decode prog_37_method_3_code 24 = .ok (.goto 4, 3) := by decide +kernel
theorem d3_27 : decode prog_37_method_3_code 27 = .ok (.iconst 0, 1) := by decide +kernel
theorem d3_28 : decode prog_37_method_3_code 28 = .ok (.i2b, 1) := by decide +kernel
theorem d3_29 : decode prog_37_method_3_code 29 = .ok (.bastore, 1) := by decide +kernel
theorem d3_30 : decode prog_37_method_3_code 30 = .ok (.aload_n 1, 1) := by decide +kernel
theorem d3_31 : decode prog_37_method_3_code 31 = .ok (.areturn, 1) := by decide +kernel
theorem pn_3 : plainName "org/cardprobe/CheckCharacter" = true := by first | (simp [plainName, overriddenIn]; done) | decide +kernel
theorem ef_rm3 (m : MethodId) (x0 : Addr) : entryFrame m #[(.ref x0)] 3 = mkF m 0 #[.val (.ref x0), .unset, .unset] [] := by first | (simp [entryFrame, mkF, argsToLocals, Value.category]; done) | rfl
def Q_rm3 (Z : State) (r0 : Addr) (n_r0 : Nat) (v_r0 : Nat → Int32) (h0 : Heap) (n0 : Nat) (v : Option Value) (h : Heap) (L : List Loc) : Prop := ∃ mw : Addr, h0.size ≤ mw ∧ v = some (.ref mw) ∧ Fr n0 L ∧ Keep h0 h [] ∧ IA Z h mw .byte n_r0 (own_upd v_r0 (n_r0 - 1) (nar .byte ((if (v_r0 (n_r0 - 1)) = (0 : Int32) then (255 : Int32) else (0 : Int32)).toInt8.toInt32)))
set_option maxRecDepth 65536 in
set_option maxHeartbeats 40000000 in
theorem rm3 (l : Launch) (Z : State) (a0 : Array Value) (hw : ∀ d ∈ tables_1, d.before a0 Z = true) (ws : List Jvm.Cond) (r0 : Addr) (n_r0 : Nat) (v_r0 : Nat → Int32) (h0 : Heap) (n0 : Nat) (Z0 : n0 ≤ h0.size) (A_r0 : IA Z h0 r0 .byte n_r0 v_r0) (E_r0 : Exa Z h0 r0 "[B") (h1n : 1 ≤ n_r0) (hn4 : n_r0 ≤ 4) :
    MetFree l (⟨"org/cardprobe/CheckCharacter", "withWrongCheck", "([B)[B"⟩ : MethodName) (head1 (Jvm.Cond.code (⟨"org/cardprobe/CheckCharacter", "withWrongCheck", "([B)[B"⟩ : MethodName) prog_37_method_3_code 3 (some (.array .byte)) :: ws) ({ frames := 1, cells := 1, slots := 4, locals := 14 } : Room)) (fun a U => a = #[(.ref r0)] ∧ Z.Warmed39 U.vm ∧ U.heap = h0) (fun _ _ _ _ _ => True) (fun _ U o U' => ∃ v L, o = .returned v ∧ Q_rm3 Z r0 n_r0 v_r0 h0 n0 v U'.heap L ∧ FrameEnd U o U' L ({ frames := 1, cells := 1, slots := 4, locals := 14 } : Room).cells ({ frames := 1, cells := 1, slots := 4, locals := 14 } : Room).slots) := by
  refine MetFree.of_bodySF (plainFor_of_name pn_3) hisR ?_
  intro p e s m args below meth c s₁ Bd hml0 hP hK
  obtain ⟨rfl, hZ, hh⟩ := hP
  have hx := Bd.exec
  have hby := Bd.bytes
  have hml : c.maxLocals = 3 := hml0
  have hown : s.vm.findClass "org/cardprobe/CheckCharacter" = some m.cls := findClass_of_methodNamed Bd.named
  have hnm := (name_of_methodNamed Bd.named Bd.method).1
  have hlk : meth.locks = false := BodyLoose.notSynchronized Bd
  have X0 : Stand p l e ({ frames := 1, cells := 1, slots := 4, locals := 14 } : Room) s m #[(.ref r0)] below meth c s₁ [] 0 0 := Stand.of_body Bd
  have e0 : s₁.heap = h0 := by rw [← hh, Bd.state]; rfl
  have N0 := Fr.nil n0
  have K0 : Keep h0 h0 [] := Keep.refl _ _
  show Goes p e below s (Q_rm3 Z r0 n_r0 v_r0 h0 n0) ({ frames := 1, cells := 1, slots := 4, locals := 14 } : Room).cells ({ frames := 1, cells := 1, slots := 4, locals := 14 } : Room).slots (s₁.setTop (entryFrame m #[(.ref r0)] 3))
  rw [ef_rm3]
  show Goes p e below s _ _ _ (s₁.setTop (mkF m 0 #[.val (.ref r0), .unset, .unset] []))
  refine Goes.go (fun _ k => XS.aloadN X0.here hx rfl (hb hby d3_0) rfl rfl  k) ?_
  show Goes p e below s _ _ _ (s₁.setTop (mkF m 1 #[.val (.ref r0), .unset, .unset] [(.ref r0)]))
  obtain ⟨T1, h1, X1, e1, E1, A1, EA1, st1⟩ := own_clone X0 hx hZ hown (hw _ (List.mem_of_getElem? (i := 12) rfl)) (hw _ (List.mem_of_getElem? (i := 13) rfl)) (hw _ (List.mem_of_getElem? (i := 17) rfl)) (hw _ (List.mem_of_getElem? (i := 15) rfl)) (hw _ (List.mem_of_getElem? (i := 16) rfl)) (hw _ (List.mem_of_getElem? (i := 18) rfl)) e0 A_r0 E_r0 (g := (mkF m 1 #[.val (.ref r0), .unset, .unset] [(.ref r0)])) rfl (by rw [hml]; rfl) rfl (hb hby d3_1) (by decide) (W := 0) (by show 2 * 0 + _ ≤ _; exact Nat.le_of_eq rfl) (by decide) (cap := 4) hn4 (by decide) (by decide)
  obtain ⟨b1, g1⟩ : ∃ z, z = h0.size := ⟨_, rfl⟩
  rw [← g1] at A1 EA1 st1
  have gb1 : n0 ≤ b1 := Nat.le_trans Z0 (Nat.le_of_eq g1.symm)
  have sb1 : h0.size ≤ b1 := Nat.le_trans K0.1 (Nat.le_of_eq g1.symm)
  have Z1 := Nat.le_trans Z0 E1.1
  have K1 := Keep.ext K0 E1
  refine Goes.go st1 ?_
  show Goes p e below s _ _ _ (T1.setTop (mkF m 4 #[.val (.ref r0), .unset, .unset] [(.ref b1)]))
  obtain ⟨T2, X2, e2, st2⟩ := castY X1 hx hZ hown (hw _ (List.mem_of_getElem? (i := 19) rfl)) e1 (Ins.self EA1) (g := (mkF m 4 #[.val (.ref r0), .unset, .unset] [(.ref b1)])) rfl rfl (hb hby d3_4)
  refine Goes.go st2 ?_
  show Goes p e below s _ _ _ (T2.setTop (mkF m 7 #[.val (.ref r0), .unset, .unset] [(.ref b1)]))
  refine Goes.go (fun _ k => XS.astoreN X2.here hx rfl (hb hby d3_7) rfl rfl (l' := #[.val (.ref r0), .val (.ref b1), .unset]) rfl k) ?_
  show Goes p e below s _ _ _ (T2.setTop (mkF m 8 #[.val (.ref r0), .val (.ref b1), .unset] []))
  refine Goes.go (fun _ k => XS.aloadN X2.here hx rfl (hb hby d3_8) rfl rfl  k) ?_
  show Goes p e below s _ _ _ (T2.setTop (mkF m 9 #[.val (.ref r0), .val (.ref b1), .unset] [(.ref b1)]))
  refine Goes.go (own_len X2 hx hZ e2 A1 (g := (mkF m 9 #[.val (.ref r0), .val (.ref b1), .unset] [(.ref b1)])) rfl rfl (hb hby d3_9)) ?_
  show Goes p e below s _ _ _ (T2.setTop (mkF m 10 #[.val (.ref r0), .val (.ref b1), .unset] [(.int (Int32.ofNat n_r0))]))
  refine Goes.go (fun _ k => XS.iconst X2.here hx rfl (hb hby d3_10) k) ?_
  show Goes p e below s _ _ _ (T2.setTop (mkF m 11 #[.val (.ref r0), .val (.ref b1), .unset] [(.int (1 : Int32)), (.int (Int32.ofNat n_r0))]))
  refine Goes.go (fun _ k => XS.isub X2.here hx rfl (hb hby d3_11) rfl k) ?_
  show Goes p e below s _ _ _ (T2.setTop (mkF m 12 #[.val (.ref r0), .val (.ref b1), .unset] [(.int ((Int32.ofNat n_r0) - (1 : Int32)))]))
  refine Goes.go (fun _ k => XS.istoreN X2.here hx rfl (hb hby d3_12) rfl (l' := #[.val (.ref r0), .val (.ref b1), .val (.int ((Int32.ofNat n_r0) - (1 : Int32)))]) rfl k) ?_
  show Goes p e below s _ _ _ (T2.setTop (mkF m 13 #[.val (.ref r0), .val (.ref b1), .val (.int ((Int32.ofNat n_r0) - (1 : Int32)))] []))
  refine Goes.go (fun _ k => XS.aloadN X2.here hx rfl (hb hby d3_13) rfl rfl  k) ?_
  show Goes p e below s _ _ _ (T2.setTop (mkF m 14 #[.val (.ref r0), .val (.ref b1), .val (.int ((Int32.ofNat n_r0) - (1 : Int32)))] [(.ref b1)]))
  refine Goes.go (fun _ k => XS.iloadN X2.here hx rfl (hb hby d3_14) rfl  k) ?_
  show Goes p e below s _ _ _ (T2.setTop (mkF m 15 #[.val (.ref r0), .val (.ref b1), .val (.int ((Int32.ofNat n_r0) - (1 : Int32)))] [(.int ((Int32.ofNat n_r0) - (1 : Int32))), (.ref b1)]))
  refine Goes.go (fun _ k => XS.aloadN X2.here hx rfl (hb hby d3_15) rfl rfl  k) ?_
  show Goes p e below s _ _ _ (T2.setTop (mkF m 16 #[.val (.ref r0), .val (.ref b1), .val (.int ((Int32.ofNat n_r0) - (1 : Int32)))] [(.ref r0), (.int ((Int32.ofNat n_r0) - (1 : Int32))), (.ref b1)]))
  refine Goes.go (fun _ k => XS.iloadN X2.here hx rfl (hb hby d3_16) rfl  k) ?_
  show Goes p e below s _ _ _ (T2.setTop (mkF m 17 #[.val (.ref r0), .val (.ref b1), .val (.int ((Int32.ofNat n_r0) - (1 : Int32)))] [(.int ((Int32.ofNat n_r0) - (1 : Int32))), (.ref r0), (.int ((Int32.ofNat n_r0) - (1 : Int32))), (.ref b1)]))
  refine Goes.go (own_ldB X2 hx hZ e2 (A_r0.ext E1) (i := (n_r0 - 1)) (own_sub (n := 1) h1n (by omega)) (by omega) (g := (mkF m 17 #[.val (.ref r0), .val (.ref b1), .val (.int ((Int32.ofNat n_r0) - (1 : Int32)))] [(.int ((Int32.ofNat n_r0) - (1 : Int32))), (.ref r0), (.int ((Int32.ofNat n_r0) - (1 : Int32))), (.ref b1)])) rfl rfl (hb hby d3_17)) ?_
  show Goes p e below s _ _ _ (T2.setTop (mkF m 18 #[.val (.ref r0), .val (.ref b1), .val (.int ((Int32.ofNat n_r0) - (1 : Int32)))] [(.int (v_r0 (n_r0 - 1))), (.int ((Int32.ofNat n_r0) - (1 : Int32))), (.ref b1)]))
  obtain ⟨z3_s0, hz3_s0⟩ : ∃ z : Int32, z = if (v_r0 (n_r0 - 1)) = (0 : Int32) then (255 : Int32) else (0 : Int32) := ⟨_, rfl⟩
  have sm3 : ∀ t, Steps p.tables e below (T2.setTop (mkF m 28 #[.val (.ref r0), .val (.ref b1), .val (.int ((Int32.ofNat n_r0) - (1 : Int32)))] [(.int z3_s0), (.int ((Int32.ofNat n_r0) - (1 : Int32))), (.ref b1)])) t → Steps p.tables e below (T2.setTop (mkF m 18 #[.val (.ref r0), .val (.ref b1), .val (.int ((Int32.ofNat n_r0) - (1 : Int32)))] [(.int (v_r0 (n_r0 - 1))), (.int ((Int32.ofNat n_r0) - (1 : Int32))), (.ref b1)])) t := by
    intro t k
    by_cases hc18_3 : (v_r0 (n_r0 - 1)) = (0 : Int32)
    · have k2 : Steps p.tables e below (T2.setTop (mkF m 28 #[.val (.ref r0), .val (.ref b1), .val (.int ((Int32.ofNat n_r0) - (1 : Int32)))] [(.int (255 : Int32)), (.int ((Int32.ofNat n_r0) - (1 : Int32))), (.ref b1)])) t := by simpa only [hz3_s0, if_pos hc18_3] using k
      show Steps p.tables e below (T2.setTop (mkF m 18 #[.val (.ref r0), .val (.ref b1), .val (.int ((Int32.ofNat n_r0) - (1 : Int32)))] [(.int (v_r0 (n_r0 - 1))), (.int ((Int32.ofNat n_r0) - (1 : Int32))), (.ref b1)])) _
      refine XS.ifNo X2.here hx rfl (hb hby d3_18) rfl ((if0 _ _).trans (teq hc18_3).2) ?_
      show Steps p.tables e below (T2.setTop (mkF m 21 #[.val (.ref r0), .val (.ref b1), .val (.int ((Int32.ofNat n_r0) - (1 : Int32)))] [(.int ((Int32.ofNat n_r0) - (1 : Int32))), (.ref b1)])) _
      refine XS.sipush X2.here hx rfl (hb hby d3_21) ?_
      show Steps p.tables e below (T2.setTop (mkF m 24 #[.val (.ref r0), .val (.ref b1), .val (.int ((Int32.ofNat n_r0) - (1 : Int32)))] [(.int (255 : Int32)), (.int ((Int32.ofNat n_r0) - (1 : Int32))), (.ref b1)])) _
      refine XS.goto X2.here hx rfl (pc0 := 24) (pc' := 28) rfl (hb hby d3_24) (by decide) (by decide) ?_
      exact k2
    · have k2 : Steps p.tables e below (T2.setTop (mkF m 28 #[.val (.ref r0), .val (.ref b1), .val (.int ((Int32.ofNat n_r0) - (1 : Int32)))] [(.int (0 : Int32)), (.int ((Int32.ofNat n_r0) - (1 : Int32))), (.ref b1)])) t := by simpa only [hz3_s0, if_neg hc18_3] using k
      show Steps p.tables e below (T2.setTop (mkF m 18 #[.val (.ref r0), .val (.ref b1), .val (.int ((Int32.ofNat n_r0) - (1 : Int32)))] [(.int (v_r0 (n_r0 - 1))), (.int ((Int32.ofNat n_r0) - (1 : Int32))), (.ref b1)])) _
      refine XS.ifYes X2.here hx rfl (pc0 := 18) (pc' := 27) rfl (hb hby d3_18) rfl ((if0 _ _).trans (feq hc18_3).2) (by decide) (by decide) ?_
      show Steps p.tables e below (T2.setTop (mkF m 27 #[.val (.ref r0), .val (.ref b1), .val (.int ((Int32.ofNat n_r0) - (1 : Int32)))] [(.int ((Int32.ofNat n_r0) - (1 : Int32))), (.ref b1)])) _
      refine XS.iconst X2.here hx rfl (hb hby d3_27) ?_
      exact k2
  refine Goes.go sm3 ?_
  show Goes p e below s _ _ _ (T2.setTop (mkF m 28 #[.val (.ref r0), .val (.ref b1), .val (.int ((Int32.ofNat n_r0) - (1 : Int32)))] [(.int z3_s0), (.int ((Int32.ofNat n_r0) - (1 : Int32))), (.ref b1)]))
  refine Goes.go (fun _ k => XS.i2b X2.here hx rfl (hb hby d3_28) rfl k) ?_
  show Goes p e below s _ _ _ (T2.setTop (mkF m 29 #[.val (.ref r0), .val (.ref b1), .val (.int ((Int32.ofNat n_r0) - (1 : Int32)))] [(.int (z3_s0.toInt8.toInt32)), (.int ((Int32.ofNat n_r0) - (1 : Int32))), (.ref b1)]))
  obtain ⟨T4, h4, X4, e4, W4, A4, st4⟩ := own_stB X2 hx hZ e2 A1 (i := (n_r0 - 1)) (own_sub (n := 1) h1n (by omega)) (by omega) (g := (mkF m 29 #[.val (.ref r0), .val (.ref b1), .val (.int ((Int32.ofNat n_r0) - (1 : Int32)))] [(.int (z3_s0.toInt8.toInt32)), (.int ((Int32.ofNat n_r0) - (1 : Int32))), (.ref b1)])) rfl rfl (hb hby d3_29)
  have N4 := Fr.snoc X4 N0 gb1
  have Z4 := Nat.le_trans Z1 (Keep.of_wr W4).1
  have K4 := Keep.wr K1 W4 (Or.inr sb1)
  refine Goes.go st4 ?_
  show Goes p e below s _ _ _ (T4.setTop (mkF m 30 #[.val (.ref r0), .val (.ref b1), .val (.int ((Int32.ofNat n_r0) - (1 : Int32)))] []))
  refine Goes.go (fun _ k => XS.aloadN X4.here hx rfl (hb hby d3_30) rfl rfl  k) ?_
  show Goes p e below s _ _ _ (T4.setTop (mkF m 31 #[.val (.ref r0), .val (.ref b1), .val (.int ((Int32.ofNat n_r0) - (1 : Int32)))] [(.ref b1)]))
  refine Goes.retA X4 hx hlk rfl Bd.returns rfl (hb hby d3_31) ?_ (by decide) (by decide)
  exact (show Q_rm3 Z r0 n_r0 v_r0 h0 n0 _ T4.heap _ by rw [e4]; exact ⟨b1, sb1, rfl, N4, K4, (by subst hz3_s0; exact A4)⟩)
theorem d4_0 : decode method_4_code 0 = .ok (.iload_n 0, 1) := by decide +kernel
theorem d4_1 : decode method_4_code 1 = .ok (.iload_n 1, 1) := by decide +kernel
theorem d4_2 : decode method_4_code 2 = .ok (.if_icmp .lt 5, 3) := by decide +kernel
theorem d4_5 : decode method_4_code 5 = .ok (.iconst 1, 1) := by decide +kernel
theorem d4_6 : decode method_4_code 6 = .ok (.ireturn, 1) := by decide +kernel
theorem d4_7 : decode method_4_code 7 = .ok (.iload_n 0, 1) := by decide +kernel
theorem d4_8 : decode method_4_code 8 = .ok (.iload_n 1, 1) := by decide +kernel
theorem d4_9 : decode method_4_code 9 = .ok (.iload_n 2, 1) := by decide +kernel
theorem d4_10 : decode method_4_code 10 = .ok (.iload 5, 2) := by decide +kernel
theorem d4_12 : decode method_4_code 12 = .ok (.iload 6, 2) := by decide +kernel
theorem d4_14 : decode method_4_code 14 = .ok (.iload 7, 2) := by decide +kernel
theorem d4_16 : decode method_4_code 16 = .ok (.iload 8, 2) := by decide +kernel
theorem d4_18 : decode method_4_code 18 = .ok (.invokestatic 13, 3) := by decide +kernel
theorem d4_21 : decode method_4_code 21 = .ok (.istore 9, 2) := by decide +kernel
theorem d4_23 : decode method_4_code 23 = .ok (.aload_n 3, 1) := by decide +kernel
theorem d4_24 : decode method_4_code 24 = .ok (.iload_n 0, 1) := by decide +kernel
theorem d4_25 : decode method_4_code 25 = .ok (.baload, 1) := by decide +kernel
theorem d4_26 : decode method_4_code 26 = .ok (.iload 9, 2) := by decide +kernel
theorem d4_28 : decode method_4_code 28 = .ok (.if_icmp .eq 5, 3) := by decide +kernel
theorem d4_31 : decode method_4_code 31 = .ok (.iconst 0, 1) := by decide +kernel
theorem d4_32 : decode method_4_code 32 = .ok (.ireturn, 1) := by decide +kernel
theorem d4_33 : decode method_4_code 33 = .ok (.iload_n 0, 1) := by decide +kernel
theorem d4_34 : decode method_4_code 34 = .ok (.iload_n 1, 1) := by decide +kernel
theorem d4_35 : decode method_4_code 35 = .ok (.iconst 1, 1) := by decide +kernel
theorem d4_36 : decode method_4_code 36 = .ok (.isub, 1) := by decide +kernel
theorem d4_37 : decode method_4_code 37 = .ok (.if_icmp .ge 10, 3) := by decide +kernel
theorem d4_40 : decode method_4_code 40 = .ok (.iload 9, 2) := by decide +kernel
theorem d4_42 : decode method_4_code 42 = .ok (.istore 10, 2) := by decide +kernel
theorem d4_44 : decode method_4_code 44 = .ok (.goto 17, 3) := by decide +kernel
theorem d4_47 : decode method_4_code 47 = .ok (.iload 9, 2) := by decide +kernel
theorem d4_49 : decode method_4_code 49 = .ok (.ifCond .ne 9, 3) := by decide +kernel
theorem d4_52 : decode method_4_code 52 = .ok (.iconst (-1), 1) := by decide +kernel
theorem d4_53 : decode method_4_code 53 = .ok (.istore 10, 2) := by decide +kernel
theorem d4_55 : decode method_4_code 55 = .ok (.goto 6, 3) := by decide +kernel
theorem d4_58 : decode method_4_code 58 = .ok (.iconst 0, 1) := by decide +kernel
theorem d4_59 : decode method_4_code 59 = .ok (.istore 10, 2) := by decide +kernel
theorem d4_61 : decode method_4_code 61 = .ok (.aload 4, 2) := by decide +kernel
theorem d4_63 : decode method_4_code 63 = .ok (.iload_n 0, 1) := by decide +kernel
theorem d4_64 : decode method_4_code 64 = .ok (.baload, 1) := by decide +kernel
theorem d4_65 : decode method_4_code 65 = .ok (.iload 10, 2) := by decide +kernel
theorem d4_67 : decode method_4_code 67 = .ok (.if_icmp .ne 7, 3) := by decide +kernel
theorem d4_70 : decode method_4_code 70 = .ok (.iconst 1, 1) := by decide +kernel
theorem d4_71 : decode method_4_code 71 = .ok (.goto 4, 3) := by decide +kernel
theorem d4_74 : decode method_4_code 74 = .ok (.iconst 0, 1) := by decide +kernel
theorem d4_75 : decode method_4_code 75 = .ok (.ireturn, 1) := by decide +kernel
theorem pn_4 : plainName "org/cardprobe/CheckCharacterWithWrongCheckPinLaw" = true := by first | (simp [plainName, overriddenIn]; done) | decide +kernel
theorem ef_rm4 (m : MethodId) (x0 : Int32) (x1 : Int32) (x2 : Int32) (x3 : Addr) (x4 : Addr) (x5 : Int32) (x6 : Int32) (x7 : Int32) (x8 : Int32) : entryFrame m #[(.int x0), (.int x1), (.int x2), (.ref x3), (.ref x4), (.int x5), (.int x6), (.int x7), (.int x8)] 11 = mkF m 0 #[.val (.int x0), .val (.int x1), .val (.int x2), .val (.ref x3), .val (.ref x4), .val (.int x5), .val (.int x6), .val (.int x7), .val (.int x8), .unset, .unset] [] := by first | (simp [entryFrame, mkF, argsToLocals, Value.category]; done) | rfl
def f4 (p0 : Int32) (p1 : Int32) (p2 : Int32) (r3 : Addr) (r4 : Addr) (p5 : Int32) (p6 : Int32) (p7 : Int32) (p8 : Int32) (n_r3 : Nat) (v_r3 : Nat → Int32) (n_r4 : Nat) (v_r4 : Nat → Int32) (kn : Nat) : Int32 := (if p0 < p1 then (if (v_r3 kn) = (f1 p0 p1 p2 p5 p6 p7 p8) then (nar .boolean (if (v_r4 kn) = (if p0 < (p1 - (1 : Int32)) then (f1 p0 p1 p2 p5 p6 p7 p8) else (if (f1 p0 p1 p2 p5 p6 p7 p8) = (0 : Int32) then (-1 : Int32) else (0 : Int32))) then (1 : Int32) else (0 : Int32))) else (0 : Int32)) else (1 : Int32))
set_option maxRecDepth 65536 in
set_option maxHeartbeats 40000000 in
theorem rm4 (l : Launch) (Z : State) (a0 : Array Value) (hw : ∀ d ∈ tables_1, d.before a0 Z = true) (ws : List Jvm.Cond) (p0 : Int32) (p1 : Int32) (p2 : Int32) (r3 : Addr) (r4 : Addr) (p5 : Int32) (p6 : Int32) (p7 : Int32) (p8 : Int32) (n_r3 : Nat) (v_r3 : Nat → Int32) (n_r4 : Nat) (v_r4 : Nat → Int32) (kn : Nat) (h0 : Heap) (n0 : Nat) (Z0 : n0 ≤ h0.size) (A_r3 : IA Z h0 r3 .byte n_r3 v_r3) (A_r4 : IA Z h0 r4 .byte n_r4 v_r4) (hk : p0 = Int32.ofNat kn) (hl : p1 = Int32.ofNat n_r3) (hm : n_r3 = n_r4) (hkk : kn < 2 ^ 31) :
    MetFree l (⟨"org/cardprobe/CheckCharacterWithWrongCheckPinLaw", "slotOk", "(IIZ[B[BIIII)Z"⟩ : MethodName) (head1 (Jvm.Cond.code (⟨"org/cardprobe/CheckCharacterWithWrongCheckPinLaw", "slotOk", "(IIZ[B[BIIII)Z"⟩ : MethodName) method_4_code 11 (some .boolean) :: ws) ({ frames := 2, cells := 0, slots := 0, locals := 34 } : Room)) (fun a U => a = #[(.int p0), (.int p1), (.int p2), (.ref r3), (.ref r4), (.int p5), (.int p6), (.int p7), (.int p8)] ∧ Z.Warmed39 U.vm ∧ U.heap = h0) (fun _ _ _ _ _ => True) (fun _ U o U' => ∃ v L, o = .returned v ∧ Qp (.int (f4 p0 p1 p2 r3 r4 p5 p6 p7 p8 n_r3 v_r3 n_r4 v_r4 kn)) h0 n0 v U'.heap L ∧ FrameEnd U o U' L ({ frames := 2, cells := 0, slots := 0, locals := 34 } : Room).cells ({ frames := 2, cells := 0, slots := 0, locals := 34 } : Room).slots) := by
  refine MetFree.of_bodySF (plainFor_of_name pn_4) hisR ?_
  intro p e s m args below meth c s₁ Bd hml0 hP hK
  obtain ⟨rfl, hZ, hh⟩ := hP
  have hx := Bd.exec
  have hby := Bd.bytes
  have hml : c.maxLocals = 11 := hml0
  have hown : s.vm.findClass "org/cardprobe/CheckCharacterWithWrongCheckPinLaw" = some m.cls := findClass_of_methodNamed Bd.named
  have hnm := (name_of_methodNamed Bd.named Bd.method).1
  have hlk : meth.locks = false := BodyLoose.notSynchronized Bd
  have X0 : Stand p l e ({ frames := 2, cells := 0, slots := 0, locals := 34 } : Room) s m #[(.int p0), (.int p1), (.int p2), (.ref r3), (.ref r4), (.int p5), (.int p6), (.int p7), (.int p8)] below meth c s₁ [] 0 0 := Stand.of_body Bd
  have e0 : s₁.heap = h0 := by rw [← hh, Bd.state]; rfl
  have N0 := Fr.nil n0
  have K0 : Keep h0 h0 [] := Keep.refl _ _
  show Goes p e below s (Qp (.int (f4 p0 p1 p2 r3 r4 p5 p6 p7 p8 n_r3 v_r3 n_r4 v_r4 kn)) h0 n0) ({ frames := 2, cells := 0, slots := 0, locals := 34 } : Room).cells ({ frames := 2, cells := 0, slots := 0, locals := 34 } : Room).slots (s₁.setTop (entryFrame m #[(.int p0), (.int p1), (.int p2), (.ref r3), (.ref r4), (.int p5), (.int p6), (.int p7), (.int p8)] 11))
  rw [ef_rm4]
  show Goes p e below s _ _ _ (s₁.setTop (mkF m 0 #[.val (.int p0), .val (.int p1), .val (.int p2), .val (.ref r3), .val (.ref r4), .val (.int p5), .val (.int p6), .val (.int p7), .val (.int p8), .unset, .unset] []))
  refine Goes.go (fun _ k => XS.iloadN X0.here hx rfl (hb hby d4_0) rfl  k) ?_
  show Goes p e below s _ _ _ (s₁.setTop (mkF m 1 #[.val (.int p0), .val (.int p1), .val (.int p2), .val (.ref r3), .val (.ref r4), .val (.int p5), .val (.int p6), .val (.int p7), .val (.int p8), .unset, .unset] [(.int p0)]))
  refine Goes.go (fun _ k => XS.iloadN X0.here hx rfl (hb hby d4_1) rfl  k) ?_
  show Goes p e below s _ _ _ (s₁.setTop (mkF m 2 #[.val (.int p0), .val (.int p1), .val (.int p2), .val (.ref r3), .val (.ref r4), .val (.int p5), .val (.int p6), .val (.int p7), .val (.int p8), .unset, .unset] [(.int p1), (.int p0)]))
  by_cases hc2_1 : p0 < p1
  · skip
    refine Goes.qi (if_pos hc2_1) ?_
    refine Goes.go (fun _ k => XS.icmpYes X0.here hx rfl (pc0 := 2) (pc' := 7) rfl (hb hby d4_2) rfl (tlt hc2_1).1 (by decide) (by decide) k) ?_
    show Goes p e below s _ _ _ (s₁.setTop (mkF m 7 #[.val (.int p0), .val (.int p1), .val (.int p2), .val (.ref r3), .val (.ref r4), .val (.int p5), .val (.int p6), .val (.int p7), .val (.int p8), .unset, .unset] []))
    refine Goes.go (fun _ k => XS.iloadN X0.here hx rfl (hb hby d4_7) rfl  k) ?_
    show Goes p e below s _ _ _ (s₁.setTop (mkF m 8 #[.val (.int p0), .val (.int p1), .val (.int p2), .val (.ref r3), .val (.ref r4), .val (.int p5), .val (.int p6), .val (.int p7), .val (.int p8), .unset, .unset] [(.int p0)]))
    refine Goes.go (fun _ k => XS.iloadN X0.here hx rfl (hb hby d4_8) rfl  k) ?_
    show Goes p e below s _ _ _ (s₁.setTop (mkF m 9 #[.val (.int p0), .val (.int p1), .val (.int p2), .val (.ref r3), .val (.ref r4), .val (.int p5), .val (.int p6), .val (.int p7), .val (.int p8), .unset, .unset] [(.int p1), (.int p0)]))
    refine Goes.go (fun _ k => XS.iloadN X0.here hx rfl (hb hby d4_9) rfl  k) ?_
    show Goes p e below s _ _ _ (s₁.setTop (mkF m 10 #[.val (.int p0), .val (.int p1), .val (.int p2), .val (.ref r3), .val (.ref r4), .val (.int p5), .val (.int p6), .val (.int p7), .val (.int p8), .unset, .unset] [(.int p2), (.int p1), (.int p0)]))
    refine Goes.go (fun _ k => XS.iload X0.here hx rfl (hb hby d4_10) rfl  k) ?_
    show Goes p e below s _ _ _ (s₁.setTop (mkF m 12 #[.val (.int p0), .val (.int p1), .val (.int p2), .val (.ref r3), .val (.ref r4), .val (.int p5), .val (.int p6), .val (.int p7), .val (.int p8), .unset, .unset] [(.int p5), (.int p2), (.int p1), (.int p0)]))
    refine Goes.go (fun _ k => XS.iload X0.here hx rfl (hb hby d4_12) rfl  k) ?_
    show Goes p e below s _ _ _ (s₁.setTop (mkF m 14 #[.val (.int p0), .val (.int p1), .val (.int p2), .val (.ref r3), .val (.ref r4), .val (.int p5), .val (.int p6), .val (.int p7), .val (.int p8), .unset, .unset] [(.int p6), (.int p5), (.int p2), (.int p1), (.int p0)]))
    refine Goes.go (fun _ k => XS.iload X0.here hx rfl (hb hby d4_14) rfl  k) ?_
    show Goes p e below s _ _ _ (s₁.setTop (mkF m 16 #[.val (.int p0), .val (.int p1), .val (.int p2), .val (.ref r3), .val (.ref r4), .val (.int p5), .val (.int p6), .val (.int p7), .val (.int p8), .unset, .unset] [(.int p7), (.int p6), (.int p5), (.int p2), (.int p1), (.int p0)]))
    refine Goes.go (fun _ k => XS.iload X0.here hx rfl (hb hby d4_16) rfl  k) ?_
    show Goes p e below s _ _ _ (s₁.setTop (mkF m 18 #[.val (.int p0), .val (.int p1), .val (.int p2), .val (.ref r3), .val (.ref r4), .val (.int p5), .val (.int p6), .val (.int p7), .val (.int p8), .unset, .unset] [(.int p8), (.int p7), (.int p6), (.int p5), (.int p2), (.int p1), (.int p0)]))
    obtain ⟨_, _, ⟨T2, L2, k2, n2⟩, -, X2, ⟨Lc2, hQ2, l2, y2, z2⟩, st2⟩ := Jvm.LawKit.callS X0 hx (y := (⟨"org/cardprobe/CheckCharacterWithWrongCheckPinLaw", "orig", "(IIZIIII)B"⟩ : MethodName)) hown (mvT hZ (hw _ (List.mem_of_getElem? (i := 1) rfl))) (mvT hZ (hw _ (List.mem_of_getElem? (i := 2) rfl))) (mvT hZ (hw _ (List.mem_of_getElem? (i := 3) rfl))) (mvT hZ (hw _ (List.mem_of_getElem? (i := 4) rfl))) (by decide) (backOf (W := 0) (rm1 l Z a0 hw [] p0 p1 p2 p5 p6 p7 p8 h0 n0 Z0 ) hZ (hw _ (List.mem_of_getElem? (i := 4) rfl)) (hw _ (List.mem_of_getElem? (i := 3) rfl)) (by decide) (by decide)) (g := (mkF m 18 #[.val (.int p0), .val (.int p1), .val (.int p2), .val (.ref r3), .val (.ref r4), .val (.int p5), .val (.int p6), .val (.int p7), .val (.int p8), .unset, .unset] [(.int p8), (.int p7), (.int p6), (.int p5), (.int p2), (.int p1), (.int p0)])) rfl (by rw [hml]; rfl) (argsL := [(.int p0), (.int p1), (.int p2), (.int p5), (.int p6), (.int p7), (.int p8)]) (rest := []) (lenOf pd_1 rfl) rfl (by show 2 * 0 + _ ≤ _; exact Nat.le_of_eq rfl) (hb hby d4_18) (fun _ _ => ⟨rfl, e0, (by decide : 0 + 0 ≤ _), (by decide : 0 + 0 ≤ _)⟩)
    dsimp only [Pt.U, Pt.locs, Pt.cells, Pt.slots] at X2 l2 y2 z2 st2 hQ2
    subst l2 y2 z2
    obtain ⟨rfl, N2q, e2⟩ := hQ2
    have N2 := Fr.app N0 N2q
    refine Goes.go st2 ?_
    show Goes p e below s _ _ _ (T2.setTop (mkF m 21 #[.val (.int p0), .val (.int p1), .val (.int p2), .val (.ref r3), .val (.ref r4), .val (.int p5), .val (.int p6), .val (.int p7), .val (.int p8), .unset, .unset] [(.int (f1 p0 p1 p2 p5 p6 p7 p8))]))
    refine Goes.go (fun _ k => XS.istore X2.here hx rfl (hb hby d4_21) rfl (l' := #[.val (.int p0), .val (.int p1), .val (.int p2), .val (.ref r3), .val (.ref r4), .val (.int p5), .val (.int p6), .val (.int p7), .val (.int p8), .val (.int (f1 p0 p1 p2 p5 p6 p7 p8)), .unset]) rfl k) ?_
    show Goes p e below s _ _ _ (T2.setTop (mkF m 23 #[.val (.int p0), .val (.int p1), .val (.int p2), .val (.ref r3), .val (.ref r4), .val (.int p5), .val (.int p6), .val (.int p7), .val (.int p8), .val (.int (f1 p0 p1 p2 p5 p6 p7 p8)), .unset] []))
    refine Goes.go (fun _ k => XS.aloadN X2.here hx rfl (hb hby d4_23) rfl rfl  k) ?_
    show Goes p e below s _ _ _ (T2.setTop (mkF m 24 #[.val (.int p0), .val (.int p1), .val (.int p2), .val (.ref r3), .val (.ref r4), .val (.int p5), .val (.int p6), .val (.int p7), .val (.int p8), .val (.int (f1 p0 p1 p2 p5 p6 p7 p8)), .unset] [(.ref r3)]))
    refine Goes.go (fun _ k => XS.iloadN X2.here hx rfl (hb hby d4_24) rfl  k) ?_
    show Goes p e below s _ _ _ (T2.setTop (mkF m 25 #[.val (.int p0), .val (.int p1), .val (.int p2), .val (.ref r3), .val (.ref r4), .val (.int p5), .val (.int p6), .val (.int p7), .val (.int p8), .val (.int (f1 p0 p1 p2 p5 p6 p7 p8)), .unset] [(.int p0), (.ref r3)]))
    refine Goes.go (own_ldB X2 hx hZ e2 A_r3 (i := kn) hk (by rw [hk, hl] at hc2_1; exact (own_lt hkk A_r3.bound).mp hc2_1) (g := (mkF m 25 #[.val (.int p0), .val (.int p1), .val (.int p2), .val (.ref r3), .val (.ref r4), .val (.int p5), .val (.int p6), .val (.int p7), .val (.int p8), .val (.int (f1 p0 p1 p2 p5 p6 p7 p8)), .unset] [(.int p0), (.ref r3)])) rfl rfl (hb hby d4_25)) ?_
    show Goes p e below s _ _ _ (T2.setTop (mkF m 26 #[.val (.int p0), .val (.int p1), .val (.int p2), .val (.ref r3), .val (.ref r4), .val (.int p5), .val (.int p6), .val (.int p7), .val (.int p8), .val (.int (f1 p0 p1 p2 p5 p6 p7 p8)), .unset] [(.int (v_r3 kn))]))
    refine Goes.go (fun _ k => XS.iload X2.here hx rfl (hb hby d4_26) rfl  k) ?_
    show Goes p e below s _ _ _ (T2.setTop (mkF m 28 #[.val (.int p0), .val (.int p1), .val (.int p2), .val (.ref r3), .val (.ref r4), .val (.int p5), .val (.int p6), .val (.int p7), .val (.int p8), .val (.int (f1 p0 p1 p2 p5 p6 p7 p8)), .unset] [(.int (f1 p0 p1 p2 p5 p6 p7 p8)), (.int (v_r3 kn))]))
    by_cases hc28_3 : (v_r3 kn) = (f1 p0 p1 p2 p5 p6 p7 p8)
    · skip
      refine Goes.qi (if_pos hc28_3) ?_
      refine Goes.go (fun _ k => XS.icmpYes X2.here hx rfl (pc0 := 28) (pc' := 33) rfl (hb hby d4_28) rfl (teq hc28_3).1 (by decide) (by decide) k) ?_
      show Goes p e below s _ _ _ (T2.setTop (mkF m 33 #[.val (.int p0), .val (.int p1), .val (.int p2), .val (.ref r3), .val (.ref r4), .val (.int p5), .val (.int p6), .val (.int p7), .val (.int p8), .val (.int (f1 p0 p1 p2 p5 p6 p7 p8)), .unset] []))
      refine Goes.go (fun _ k => XS.iloadN X2.here hx rfl (hb hby d4_33) rfl  k) ?_
      show Goes p e below s _ _ _ (T2.setTop (mkF m 34 #[.val (.int p0), .val (.int p1), .val (.int p2), .val (.ref r3), .val (.ref r4), .val (.int p5), .val (.int p6), .val (.int p7), .val (.int p8), .val (.int (f1 p0 p1 p2 p5 p6 p7 p8)), .unset] [(.int p0)]))
      refine Goes.go (fun _ k => XS.iloadN X2.here hx rfl (hb hby d4_34) rfl  k) ?_
      show Goes p e below s _ _ _ (T2.setTop (mkF m 35 #[.val (.int p0), .val (.int p1), .val (.int p2), .val (.ref r3), .val (.ref r4), .val (.int p5), .val (.int p6), .val (.int p7), .val (.int p8), .val (.int (f1 p0 p1 p2 p5 p6 p7 p8)), .unset] [(.int p1), (.int p0)]))
      refine Goes.go (fun _ k => XS.iconst X2.here hx rfl (hb hby d4_35) k) ?_
      show Goes p e below s _ _ _ (T2.setTop (mkF m 36 #[.val (.int p0), .val (.int p1), .val (.int p2), .val (.ref r3), .val (.ref r4), .val (.int p5), .val (.int p6), .val (.int p7), .val (.int p8), .val (.int (f1 p0 p1 p2 p5 p6 p7 p8)), .unset] [(.int (1 : Int32)), (.int p1), (.int p0)]))
      refine Goes.go (fun _ k => XS.isub X2.here hx rfl (hb hby d4_36) rfl k) ?_
      show Goes p e below s _ _ _ (T2.setTop (mkF m 37 #[.val (.int p0), .val (.int p1), .val (.int p2), .val (.ref r3), .val (.ref r4), .val (.int p5), .val (.int p6), .val (.int p7), .val (.int p8), .val (.int (f1 p0 p1 p2 p5 p6 p7 p8)), .unset] [(.int (p1 - (1 : Int32))), (.int p0)]))
      obtain ⟨z4_l10, hz4_l10⟩ : ∃ z : Int32, z = if p0 < (p1 - (1 : Int32)) then (f1 p0 p1 p2 p5 p6 p7 p8) else (if (f1 p0 p1 p2 p5 p6 p7 p8) = (0 : Int32) then (-1 : Int32) else (0 : Int32)) := ⟨_, rfl⟩
      have sm4 : ∀ t, Steps p.tables e below (T2.setTop (mkF m 61 #[.val (.int p0), .val (.int p1), .val (.int p2), .val (.ref r3), .val (.ref r4), .val (.int p5), .val (.int p6), .val (.int p7), .val (.int p8), .val (.int (f1 p0 p1 p2 p5 p6 p7 p8)), .val (.int z4_l10)] [])) t → Steps p.tables e below (T2.setTop (mkF m 37 #[.val (.int p0), .val (.int p1), .val (.int p2), .val (.ref r3), .val (.ref r4), .val (.int p5), .val (.int p6), .val (.int p7), .val (.int p8), .val (.int (f1 p0 p1 p2 p5 p6 p7 p8)), .unset] [(.int (p1 - (1 : Int32))), (.int p0)])) t := by
        intro t k
        by_cases hc37_4 : p0 < (p1 - (1 : Int32))
        · have k2 : Steps p.tables e below (T2.setTop (mkF m 61 #[.val (.int p0), .val (.int p1), .val (.int p2), .val (.ref r3), .val (.ref r4), .val (.int p5), .val (.int p6), .val (.int p7), .val (.int p8), .val (.int (f1 p0 p1 p2 p5 p6 p7 p8)), .val (.int (f1 p0 p1 p2 p5 p6 p7 p8))] [])) t := by simpa only [hz4_l10, if_pos hc37_4] using k
          show Steps p.tables e below (T2.setTop (mkF m 37 #[.val (.int p0), .val (.int p1), .val (.int p2), .val (.ref r3), .val (.ref r4), .val (.int p5), .val (.int p6), .val (.int p7), .val (.int p8), .val (.int (f1 p0 p1 p2 p5 p6 p7 p8)), .unset] [(.int (p1 - (1 : Int32))), (.int p0)])) _
          refine XS.icmpNo X2.here hx rfl (hb hby d4_37) rfl (tlt hc37_4).2.1 ?_
          show Steps p.tables e below (T2.setTop (mkF m 40 #[.val (.int p0), .val (.int p1), .val (.int p2), .val (.ref r3), .val (.ref r4), .val (.int p5), .val (.int p6), .val (.int p7), .val (.int p8), .val (.int (f1 p0 p1 p2 p5 p6 p7 p8)), .unset] [])) _
          refine XS.iload X2.here hx rfl (hb hby d4_40) rfl  ?_
          show Steps p.tables e below (T2.setTop (mkF m 42 #[.val (.int p0), .val (.int p1), .val (.int p2), .val (.ref r3), .val (.ref r4), .val (.int p5), .val (.int p6), .val (.int p7), .val (.int p8), .val (.int (f1 p0 p1 p2 p5 p6 p7 p8)), .unset] [(.int (f1 p0 p1 p2 p5 p6 p7 p8))])) _
          refine XS.istore X2.here hx rfl (hb hby d4_42) rfl (l' := #[.val (.int p0), .val (.int p1), .val (.int p2), .val (.ref r3), .val (.ref r4), .val (.int p5), .val (.int p6), .val (.int p7), .val (.int p8), .val (.int (f1 p0 p1 p2 p5 p6 p7 p8)), .val (.int (f1 p0 p1 p2 p5 p6 p7 p8))]) rfl ?_
          show Steps p.tables e below (T2.setTop (mkF m 44 #[.val (.int p0), .val (.int p1), .val (.int p2), .val (.ref r3), .val (.ref r4), .val (.int p5), .val (.int p6), .val (.int p7), .val (.int p8), .val (.int (f1 p0 p1 p2 p5 p6 p7 p8)), .val (.int (f1 p0 p1 p2 p5 p6 p7 p8))] [])) _
          refine XS.goto X2.here hx rfl (pc0 := 44) (pc' := 61) rfl (hb hby d4_44) (by decide) (by decide) ?_
          exact k2
        · have k2 : Steps p.tables e below (T2.setTop (mkF m 61 #[.val (.int p0), .val (.int p1), .val (.int p2), .val (.ref r3), .val (.ref r4), .val (.int p5), .val (.int p6), .val (.int p7), .val (.int p8), .val (.int (f1 p0 p1 p2 p5 p6 p7 p8)), .val (.int (if (f1 p0 p1 p2 p5 p6 p7 p8) = (0 : Int32) then (-1 : Int32) else (0 : Int32)))] [])) t := by simpa only [hz4_l10, if_neg hc37_4] using k
          show Steps p.tables e below (T2.setTop (mkF m 37 #[.val (.int p0), .val (.int p1), .val (.int p2), .val (.ref r3), .val (.ref r4), .val (.int p5), .val (.int p6), .val (.int p7), .val (.int p8), .val (.int (f1 p0 p1 p2 p5 p6 p7 p8)), .unset] [(.int (p1 - (1 : Int32))), (.int p0)])) _
          refine XS.icmpYes X2.here hx rfl (pc0 := 37) (pc' := 47) rfl (hb hby d4_37) rfl (flt hc37_4).2.1 (by decide) (by decide) ?_
          show Steps p.tables e below (T2.setTop (mkF m 47 #[.val (.int p0), .val (.int p1), .val (.int p2), .val (.ref r3), .val (.ref r4), .val (.int p5), .val (.int p6), .val (.int p7), .val (.int p8), .val (.int (f1 p0 p1 p2 p5 p6 p7 p8)), .unset] [])) _
          refine XS.iload X2.here hx rfl (hb hby d4_47) rfl  ?_
          show Steps p.tables e below (T2.setTop (mkF m 49 #[.val (.int p0), .val (.int p1), .val (.int p2), .val (.ref r3), .val (.ref r4), .val (.int p5), .val (.int p6), .val (.int p7), .val (.int p8), .val (.int (f1 p0 p1 p2 p5 p6 p7 p8)), .unset] [(.int (f1 p0 p1 p2 p5 p6 p7 p8))])) _
          have sm5 : ∀ t, Steps p.tables e below (T2.setTop (mkF m 61 #[.val (.int p0), .val (.int p1), .val (.int p2), .val (.ref r3), .val (.ref r4), .val (.int p5), .val (.int p6), .val (.int p7), .val (.int p8), .val (.int (f1 p0 p1 p2 p5 p6 p7 p8)), .val (.int (if (f1 p0 p1 p2 p5 p6 p7 p8) = (0 : Int32) then (-1 : Int32) else (0 : Int32)))] [])) t → Steps p.tables e below (T2.setTop (mkF m 49 #[.val (.int p0), .val (.int p1), .val (.int p2), .val (.ref r3), .val (.ref r4), .val (.int p5), .val (.int p6), .val (.int p7), .val (.int p8), .val (.int (f1 p0 p1 p2 p5 p6 p7 p8)), .unset] [(.int (f1 p0 p1 p2 p5 p6 p7 p8))])) t := by
            intro t k
            by_cases hc49_5 : (f1 p0 p1 p2 p5 p6 p7 p8) = (0 : Int32)
            · have k2 : Steps p.tables e below (T2.setTop (mkF m 61 #[.val (.int p0), .val (.int p1), .val (.int p2), .val (.ref r3), .val (.ref r4), .val (.int p5), .val (.int p6), .val (.int p7), .val (.int p8), .val (.int (f1 p0 p1 p2 p5 p6 p7 p8)), .val (.int (-1 : Int32))] [])) t := by simpa only [if_pos hc49_5] using k
              show Steps p.tables e below (T2.setTop (mkF m 49 #[.val (.int p0), .val (.int p1), .val (.int p2), .val (.ref r3), .val (.ref r4), .val (.int p5), .val (.int p6), .val (.int p7), .val (.int p8), .val (.int (f1 p0 p1 p2 p5 p6 p7 p8)), .unset] [(.int (f1 p0 p1 p2 p5 p6 p7 p8))])) _
              refine XS.ifNo X2.here hx rfl (hb hby d4_49) rfl ((if0 _ _).trans (teq hc49_5).2) ?_
              show Steps p.tables e below (T2.setTop (mkF m 52 #[.val (.int p0), .val (.int p1), .val (.int p2), .val (.ref r3), .val (.ref r4), .val (.int p5), .val (.int p6), .val (.int p7), .val (.int p8), .val (.int (f1 p0 p1 p2 p5 p6 p7 p8)), .unset] [])) _
              refine XS.iconst X2.here hx rfl (hb hby d4_52) ?_
              show Steps p.tables e below (T2.setTop (mkF m 53 #[.val (.int p0), .val (.int p1), .val (.int p2), .val (.ref r3), .val (.ref r4), .val (.int p5), .val (.int p6), .val (.int p7), .val (.int p8), .val (.int (f1 p0 p1 p2 p5 p6 p7 p8)), .unset] [(.int (-1 : Int32))])) _
              refine XS.istore X2.here hx rfl (hb hby d4_53) rfl (l' := #[.val (.int p0), .val (.int p1), .val (.int p2), .val (.ref r3), .val (.ref r4), .val (.int p5), .val (.int p6), .val (.int p7), .val (.int p8), .val (.int (f1 p0 p1 p2 p5 p6 p7 p8)), .val (.int (-1 : Int32))]) rfl ?_
              show Steps p.tables e below (T2.setTop (mkF m 55 #[.val (.int p0), .val (.int p1), .val (.int p2), .val (.ref r3), .val (.ref r4), .val (.int p5), .val (.int p6), .val (.int p7), .val (.int p8), .val (.int (f1 p0 p1 p2 p5 p6 p7 p8)), .val (.int (-1 : Int32))] [])) _
              refine XS.goto X2.here hx rfl (pc0 := 55) (pc' := 61) rfl (hb hby d4_55) (by decide) (by decide) ?_
              exact k2
            · have k2 : Steps p.tables e below (T2.setTop (mkF m 61 #[.val (.int p0), .val (.int p1), .val (.int p2), .val (.ref r3), .val (.ref r4), .val (.int p5), .val (.int p6), .val (.int p7), .val (.int p8), .val (.int (f1 p0 p1 p2 p5 p6 p7 p8)), .val (.int (0 : Int32))] [])) t := by simpa only [if_neg hc49_5] using k
              show Steps p.tables e below (T2.setTop (mkF m 49 #[.val (.int p0), .val (.int p1), .val (.int p2), .val (.ref r3), .val (.ref r4), .val (.int p5), .val (.int p6), .val (.int p7), .val (.int p8), .val (.int (f1 p0 p1 p2 p5 p6 p7 p8)), .unset] [(.int (f1 p0 p1 p2 p5 p6 p7 p8))])) _
              refine XS.ifYes X2.here hx rfl (pc0 := 49) (pc' := 58) rfl (hb hby d4_49) rfl ((if0 _ _).trans (feq hc49_5).2) (by decide) (by decide) ?_
              show Steps p.tables e below (T2.setTop (mkF m 58 #[.val (.int p0), .val (.int p1), .val (.int p2), .val (.ref r3), .val (.ref r4), .val (.int p5), .val (.int p6), .val (.int p7), .val (.int p8), .val (.int (f1 p0 p1 p2 p5 p6 p7 p8)), .unset] [])) _
              refine XS.iconst X2.here hx rfl (hb hby d4_58) ?_
              show Steps p.tables e below (T2.setTop (mkF m 59 #[.val (.int p0), .val (.int p1), .val (.int p2), .val (.ref r3), .val (.ref r4), .val (.int p5), .val (.int p6), .val (.int p7), .val (.int p8), .val (.int (f1 p0 p1 p2 p5 p6 p7 p8)), .unset] [(.int (0 : Int32))])) _
              refine XS.istore X2.here hx rfl (hb hby d4_59) rfl (l' := #[.val (.int p0), .val (.int p1), .val (.int p2), .val (.ref r3), .val (.ref r4), .val (.int p5), .val (.int p6), .val (.int p7), .val (.int p8), .val (.int (f1 p0 p1 p2 p5 p6 p7 p8)), .val (.int (0 : Int32))]) rfl ?_
              exact k2
          refine sm5 _ ?_
          exact k2
      refine Goes.go sm4 ?_
      show Goes p e below s _ _ _ (T2.setTop (mkF m 61 #[.val (.int p0), .val (.int p1), .val (.int p2), .val (.ref r3), .val (.ref r4), .val (.int p5), .val (.int p6), .val (.int p7), .val (.int p8), .val (.int (f1 p0 p1 p2 p5 p6 p7 p8)), .val (.int z4_l10)] []))
      refine Goes.go (fun _ k => XS.aload X2.here hx rfl (hb hby d4_61) rfl rfl  k) ?_
      show Goes p e below s _ _ _ (T2.setTop (mkF m 63 #[.val (.int p0), .val (.int p1), .val (.int p2), .val (.ref r3), .val (.ref r4), .val (.int p5), .val (.int p6), .val (.int p7), .val (.int p8), .val (.int (f1 p0 p1 p2 p5 p6 p7 p8)), .val (.int z4_l10)] [(.ref r4)]))
      refine Goes.go (fun _ k => XS.iloadN X2.here hx rfl (hb hby d4_63) rfl  k) ?_
      show Goes p e below s _ _ _ (T2.setTop (mkF m 64 #[.val (.int p0), .val (.int p1), .val (.int p2), .val (.ref r3), .val (.ref r4), .val (.int p5), .val (.int p6), .val (.int p7), .val (.int p8), .val (.int (f1 p0 p1 p2 p5 p6 p7 p8)), .val (.int z4_l10)] [(.int p0), (.ref r4)]))
      refine Goes.go (own_ldB X2 hx hZ e2 A_r4 (i := kn) hk (by rw [hk, hl] at hc2_1; exact hm ▸ (own_lt hkk A_r3.bound).mp hc2_1) (g := (mkF m 64 #[.val (.int p0), .val (.int p1), .val (.int p2), .val (.ref r3), .val (.ref r4), .val (.int p5), .val (.int p6), .val (.int p7), .val (.int p8), .val (.int (f1 p0 p1 p2 p5 p6 p7 p8)), .val (.int z4_l10)] [(.int p0), (.ref r4)])) rfl rfl (hb hby d4_64)) ?_
      show Goes p e below s _ _ _ (T2.setTop (mkF m 65 #[.val (.int p0), .val (.int p1), .val (.int p2), .val (.ref r3), .val (.ref r4), .val (.int p5), .val (.int p6), .val (.int p7), .val (.int p8), .val (.int (f1 p0 p1 p2 p5 p6 p7 p8)), .val (.int z4_l10)] [(.int (v_r4 kn))]))
      refine Goes.go (fun _ k => XS.iload X2.here hx rfl (hb hby d4_65) rfl  k) ?_
      show Goes p e below s _ _ _ (T2.setTop (mkF m 67 #[.val (.int p0), .val (.int p1), .val (.int p2), .val (.ref r3), .val (.ref r4), .val (.int p5), .val (.int p6), .val (.int p7), .val (.int p8), .val (.int (f1 p0 p1 p2 p5 p6 p7 p8)), .val (.int z4_l10)] [(.int z4_l10), (.int (v_r4 kn))]))
      obtain ⟨z6_s0, hz6_s0⟩ : ∃ z : Int32, z = if (v_r4 kn) = z4_l10 then (1 : Int32) else (0 : Int32) := ⟨_, rfl⟩
      have sm6 : ∀ t, Steps p.tables e below (T2.setTop (mkF m 75 #[.val (.int p0), .val (.int p1), .val (.int p2), .val (.ref r3), .val (.ref r4), .val (.int p5), .val (.int p6), .val (.int p7), .val (.int p8), .val (.int (f1 p0 p1 p2 p5 p6 p7 p8)), .val (.int z4_l10)] [(.int z6_s0)])) t → Steps p.tables e below (T2.setTop (mkF m 67 #[.val (.int p0), .val (.int p1), .val (.int p2), .val (.ref r3), .val (.ref r4), .val (.int p5), .val (.int p6), .val (.int p7), .val (.int p8), .val (.int (f1 p0 p1 p2 p5 p6 p7 p8)), .val (.int z4_l10)] [(.int z4_l10), (.int (v_r4 kn))])) t := by
        intro t k
        by_cases hc67_6 : (v_r4 kn) = z4_l10
        · have k2 : Steps p.tables e below (T2.setTop (mkF m 75 #[.val (.int p0), .val (.int p1), .val (.int p2), .val (.ref r3), .val (.ref r4), .val (.int p5), .val (.int p6), .val (.int p7), .val (.int p8), .val (.int (f1 p0 p1 p2 p5 p6 p7 p8)), .val (.int z4_l10)] [(.int (1 : Int32))])) t := by simpa only [hz6_s0, if_pos hc67_6] using k
          show Steps p.tables e below (T2.setTop (mkF m 67 #[.val (.int p0), .val (.int p1), .val (.int p2), .val (.ref r3), .val (.ref r4), .val (.int p5), .val (.int p6), .val (.int p7), .val (.int p8), .val (.int (f1 p0 p1 p2 p5 p6 p7 p8)), .val (.int z4_l10)] [(.int z4_l10), (.int (v_r4 kn))])) _
          refine XS.icmpNo X2.here hx rfl (hb hby d4_67) rfl (teq hc67_6).2 ?_
          show Steps p.tables e below (T2.setTop (mkF m 70 #[.val (.int p0), .val (.int p1), .val (.int p2), .val (.ref r3), .val (.ref r4), .val (.int p5), .val (.int p6), .val (.int p7), .val (.int p8), .val (.int (f1 p0 p1 p2 p5 p6 p7 p8)), .val (.int z4_l10)] [])) _
          refine XS.iconst X2.here hx rfl (hb hby d4_70) ?_
          show Steps p.tables e below (T2.setTop (mkF m 71 #[.val (.int p0), .val (.int p1), .val (.int p2), .val (.ref r3), .val (.ref r4), .val (.int p5), .val (.int p6), .val (.int p7), .val (.int p8), .val (.int (f1 p0 p1 p2 p5 p6 p7 p8)), .val (.int z4_l10)] [(.int (1 : Int32))])) _
          refine XS.goto X2.here hx rfl (pc0 := 71) (pc' := 75) rfl (hb hby d4_71) (by decide) (by decide) ?_
          exact k2
        · have k2 : Steps p.tables e below (T2.setTop (mkF m 75 #[.val (.int p0), .val (.int p1), .val (.int p2), .val (.ref r3), .val (.ref r4), .val (.int p5), .val (.int p6), .val (.int p7), .val (.int p8), .val (.int (f1 p0 p1 p2 p5 p6 p7 p8)), .val (.int z4_l10)] [(.int (0 : Int32))])) t := by simpa only [hz6_s0, if_neg hc67_6] using k
          show Steps p.tables e below (T2.setTop (mkF m 67 #[.val (.int p0), .val (.int p1), .val (.int p2), .val (.ref r3), .val (.ref r4), .val (.int p5), .val (.int p6), .val (.int p7), .val (.int p8), .val (.int (f1 p0 p1 p2 p5 p6 p7 p8)), .val (.int z4_l10)] [(.int z4_l10), (.int (v_r4 kn))])) _
          refine XS.icmpYes X2.here hx rfl (pc0 := 67) (pc' := 74) rfl (hb hby d4_67) rfl (feq hc67_6).2 (by decide) (by decide) ?_
          show Steps p.tables e below (T2.setTop (mkF m 74 #[.val (.int p0), .val (.int p1), .val (.int p2), .val (.ref r3), .val (.ref r4), .val (.int p5), .val (.int p6), .val (.int p7), .val (.int p8), .val (.int (f1 p0 p1 p2 p5 p6 p7 p8)), .val (.int z4_l10)] [])) _
          refine XS.iconst X2.here hx rfl (hb hby d4_74) ?_
          exact k2
      refine Goes.go sm6 ?_
      show Goes p e below s _ _ _ (T2.setTop (mkF m 75 #[.val (.int p0), .val (.int p1), .val (.int p2), .val (.ref r3), .val (.ref r4), .val (.int p5), .val (.int p6), .val (.int p7), .val (.int p8), .val (.int (f1 p0 p1 p2 p5 p6 p7 p8)), .val (.int z4_l10)] [(.int z6_s0)]))
      refine Goes.retN .boolean X2 hx hlk Bd.returns (by simp) (hb hby d4_75) ?_ (by decide) (by decide)
      exact ⟨by subst hz6_s0; subst hz4_l10; rfl, N2, e2⟩
    · skip
      refine Goes.qi (if_neg hc28_3) ?_
      refine Goes.go (fun _ k => XS.icmpNo X2.here hx rfl (hb hby d4_28) rfl (feq hc28_3).1 k) ?_
      show Goes p e below s _ _ _ (T2.setTop (mkF m 31 #[.val (.int p0), .val (.int p1), .val (.int p2), .val (.ref r3), .val (.ref r4), .val (.int p5), .val (.int p6), .val (.int p7), .val (.int p8), .val (.int (f1 p0 p1 p2 p5 p6 p7 p8)), .unset] []))
      refine Goes.go (fun _ k => XS.iconst X2.here hx rfl (hb hby d4_31) k) ?_
      show Goes p e below s _ _ _ (T2.setTop (mkF m 32 #[.val (.int p0), .val (.int p1), .val (.int p2), .val (.ref r3), .val (.ref r4), .val (.int p5), .val (.int p6), .val (.int p7), .val (.int p8), .val (.int (f1 p0 p1 p2 p5 p6 p7 p8)), .unset] [(.int (0 : Int32))]))
      refine Goes.retN .boolean X2 hx hlk Bd.returns (by simp) (hb hby d4_32) ?_ (by decide) (by decide)
      exact ⟨by rfl, N2, e2⟩
  · skip
    refine Goes.qi (if_neg hc2_1) ?_
    refine Goes.go (fun _ k => XS.icmpNo X0.here hx rfl (hb hby d4_2) rfl (flt hc2_1).1 k) ?_
    show Goes p e below s _ _ _ (s₁.setTop (mkF m 5 #[.val (.int p0), .val (.int p1), .val (.int p2), .val (.ref r3), .val (.ref r4), .val (.int p5), .val (.int p6), .val (.int p7), .val (.int p8), .unset, .unset] []))
    refine Goes.go (fun _ k => XS.iconst X0.here hx rfl (hb hby d4_5) k) ?_
    show Goes p e below s _ _ _ (s₁.setTop (mkF m 6 #[.val (.int p0), .val (.int p1), .val (.int p2), .val (.ref r3), .val (.ref r4), .val (.int p5), .val (.int p6), .val (.int p7), .val (.int p8), .unset, .unset] [(.int (1 : Int32))]))
    refine Goes.retN .boolean X0 hx hlk Bd.returns (by simp) (hb hby d4_6) ?_ (by decide) (by decide)
    exact ⟨by rfl, N0, e0⟩
theorem own_nb (x : Int32) : nar .byte (nar .byte x) = nar .byte x := by
  show (x.toInt8.toInt32).toInt8.toInt32 = x.toInt8.toInt32
  rw [Int8.toInt8_toInt32]
theorem own_f2b (i a b c d : Int32) : nar .byte (f2 i a b c d) = f2 i a b c d := by
  unfold f2
  by_cases h0 : i = 0
  · rw [if_pos h0]; exact own_nb _
  · rw [if_neg h0]
    by_cases h1 : i = 1
    · rw [if_pos h1]; exact own_nb _
    · rw [if_neg h1]
      by_cases h2 : i = 2
      · rw [if_pos h2]; exact own_nb _
      · rw [if_neg h2]; exact own_nb _
theorem own_f1b (i n z a b c d : Int32) : nar .byte (f1 i n z a b c d) = f1 i n z a b c d := by
  unfold f1 f1_13
  by_cases h0 : z = 0
  · rw [if_pos h0]; exact own_nb _
  · rw [if_neg h0]
    by_cases h1 : i = n - 1
    · rw [if_pos h1]; rfl
    · rw [if_neg h1]; exact own_nb _
theorem own_far {i n z a b c d : Int32} {x y : Addr} {l k m : Nat} {v u : Nat → Int32} (h : ¬ i < n) : ¬ (f4 i n z x y a b c d l v k u m = (0 : Int32)) := by
  unfold f4; rw [if_neg h]; decide
theorem own_near {i n z a b c d : Int32} {x y : Addr} {l k m : Nat} {v u : Nat → Int32} (h : i < n) (h1 : i < n - 1) (hv : v m = f1 i n z a b c d) (hu : u m = f1 i n z a b c d) : ¬ (f4 i n z x y a b c d l v k u m = (0 : Int32)) := by
  unfold f4; rw [if_pos h, hv, if_pos rfl, if_pos h1, hu, if_pos rfl]; decide
theorem own_last {i n z a b c d : Int32} {x y : Addr} {l k m : Nat} {v u : Nat → Int32} (h : i < n) (h1 : ¬ i < n - 1) (hv : v m = f1 i n z a b c d) (hu : u m = nar .byte ((if v m = (0 : Int32) then (255 : Int32) else (0 : Int32)).toInt8.toInt32)) : ¬ (f4 i n z x y a b c d l v k u m = (0 : Int32)) := by
  unfold f4; rw [if_pos h, if_neg h1, hu, hv, if_pos rfl]
  by_cases q : f1 i n z a b c d = 0
  · rw [if_pos q, if_pos q]; decide
  · rw [if_neg q, if_neg q]; decide
theorem pn_0 : plainName "org/cardprobe/CheckCharacterWithWrongCheckPinLaw" = true := by first | (simp [plainName, overriddenIn]; done) | decide +kernel
theorem ef_rm0 (m : MethodId) (x0 : Int32) (x1 : Int32) (x2 : Int32) (x3 : Int32) (x4 : Int32) : entryFrame m #[(.int x0), (.int x1), (.int x2), (.int x3), (.int x4)] maxLocals = mkF m 0 #[.val (.int x0), .val (.int x1), .val (.int x2), .val (.int x3), .val (.int x4), .unset, .unset, .unset, .unset] [] := by first | (simp [entryFrame, mkF, argsToLocals, Value.category, maxLocals]; done) | rfl
def Q0 (n0 : Nat) (v : Option Value) (h : Heap) (L : List Loc) : Prop := v = some (.int 1) ∧ Fr n0 L
set_option maxRecDepth 65536 in
set_option maxHeartbeats 40000000 in
theorem rm0 (l : Launch) (Z : State) (a0 : Array Value) (hw : ∀ d ∈ tables_1, d.before a0 Z = true) (ws : List Jvm.Cond) (p0 : Int32) (p1 : Int32) (p2 : Int32) (p3 : Int32) (p4 : Int32) (h0 : Heap) (n0 : Nat) (Z0 : n0 ≤ h0.size) :
    MetFree l x (head1 (Jvm.Cond.code x code maxLocals ret :: ws) room_1) (fun a U => a = #[(.int p0), (.int p1), (.int p2), (.int p3), (.int p4)] ∧ Z.Warmed39 U.vm ∧ U.heap = h0) (fun _ _ _ _ _ => True) (fun _ U o U' => ∃ v L, o = .returned v ∧ Q0 n0 v U'.heap L ∧ FrameEnd U o U' L room_1.cells room_1.slots) := by
  refine MetFree.of_bodySF (plainFor_of_name pn_0) hisR ?_
  intro p e s m args below meth c s₁ Bd hml0 hP hK
  obtain ⟨rfl, hZ, hh⟩ := hP
  have hx := Bd.exec
  have hby := Bd.bytes
  have hml : c.maxLocals = 9 := hml0
  have hown : s.vm.findClass "org/cardprobe/CheckCharacterWithWrongCheckPinLaw" = some m.cls := findClass_of_methodNamed Bd.named
  have hnm := (name_of_methodNamed Bd.named Bd.method).1
  have hlk : meth.locks = false := BodyLoose.notSynchronized Bd
  have X0 : Stand p l e room_1 s m #[(.int p0), (.int p1), (.int p2), (.int p3), (.int p4)] below meth c s₁ [] 0 0 := Stand.of_body Bd
  have e0 : s₁.heap = h0 := by rw [← hh, Bd.state]; rfl
  have N0 := Fr.nil n0
  have K0 : Keep h0 h0 [] := Keep.refl _ _
  show Goes p e below s (Q0 n0) room_1.cells room_1.slots (s₁.setTop (entryFrame m #[(.int p0), (.int p1), (.int p2), (.int p3), (.int p4)] maxLocals))
  rw [ef_rm0]
  show Goes p e below s _ _ _ (s₁.setTop (mkF m 0 #[.val (.int p0), .val (.int p1), .val (.int p2), .val (.int p3), .val (.int p4), .unset, .unset, .unset, .unset] []))
  refine Goes.go (fun _ k => XS.iloadN X0.here hx rfl (hb hby at_0) rfl  k) ?_
  show Goes p e below s _ _ _ (s₁.setTop (mkF m 1 #[.val (.int p0), .val (.int p1), .val (.int p2), .val (.int p3), .val (.int p4), .unset, .unset, .unset, .unset] [(.int p0)]))
  refine Goes.go (fun _ k => XS.iconst X0.here hx rfl (hb hby at_1) k) ?_
  show Goes p e below s _ _ _ (s₁.setTop (mkF m 2 #[.val (.int p0), .val (.int p1), .val (.int p2), .val (.int p3), .val (.int p4), .unset, .unset, .unset, .unset] [(.int (3 : Int32)), (.int p0)]))
  refine Goes.go (fun _ k => XS.iand X0.here hx rfl (hb hby at_2) rfl k) ?_
  show Goes p e below s _ _ _ (s₁.setTop (mkF m 3 #[.val (.int p0), .val (.int p1), .val (.int p2), .val (.int p3), .val (.int p4), .unset, .unset, .unset, .unset] [(.int (p0 &&& (3 : Int32)))]))
  refine Goes.go (fun _ k => XS.iconst X0.here hx rfl (hb hby at_3) k) ?_
  show Goes p e below s _ _ _ (s₁.setTop (mkF m 4 #[.val (.int p0), .val (.int p1), .val (.int p2), .val (.int p3), .val (.int p4), .unset, .unset, .unset, .unset] [(.int (1 : Int32)), (.int (p0 &&& (3 : Int32)))]))
  refine Goes.go (fun _ k => XS.iadd X0.here hx rfl (hb hby at_4) rfl k) ?_
  show Goes p e below s _ _ _ (s₁.setTop (mkF m 5 #[.val (.int p0), .val (.int p1), .val (.int p2), .val (.int p3), .val (.int p4), .unset, .unset, .unset, .unset] [(.int ((p0 &&& (3 : Int32)) + (1 : Int32)))]))
  refine Goes.go (fun _ k => XS.istore X0.here hx rfl (hb hby at_5) rfl (l' := #[.val (.int p0), .val (.int p1), .val (.int p2), .val (.int p3), .val (.int p4), .val (.int ((p0 &&& (3 : Int32)) + (1 : Int32))), .unset, .unset, .unset]) rfl k) ?_
  show Goes p e below s _ _ _ (s₁.setTop (mkF m 7 #[.val (.int p0), .val (.int p1), .val (.int p2), .val (.int p3), .val (.int p4), .val (.int ((p0 &&& (3 : Int32)) + (1 : Int32))), .unset, .unset, .unset] []))
  refine Goes.go (fun _ k => XS.iloadN X0.here hx rfl (hb hby at_7) rfl  k) ?_
  show Goes p e below s _ _ _ (s₁.setTop (mkF m 8 #[.val (.int p0), .val (.int p1), .val (.int p2), .val (.int p3), .val (.int p4), .val (.int ((p0 &&& (3 : Int32)) + (1 : Int32))), .unset, .unset, .unset] [(.int p0)]))
  refine Goes.go (fun _ k => XS.iconst X0.here hx rfl (hb hby at_8) k) ?_
  show Goes p e below s _ _ _ (s₁.setTop (mkF m 9 #[.val (.int p0), .val (.int p1), .val (.int p2), .val (.int p3), .val (.int p4), .val (.int ((p0 &&& (3 : Int32)) + (1 : Int32))), .unset, .unset, .unset] [(.int (2 : Int32)), (.int p0)]))
  refine Goes.go (fun _ k => XS.iushr X0.here hx rfl (hb hby at_9) rfl k) ?_
  show Goes p e below s _ _ _ (s₁.setTop (mkF m 10 #[.val (.int p0), .val (.int p1), .val (.int p2), .val (.int p3), .val (.int p4), .val (.int ((p0 &&& (3 : Int32)) + (1 : Int32))), .unset, .unset, .unset] [(.int ((p0.toUInt32 >>> ((2 : Int32) &&& 31).toUInt32).toInt32))]))
  refine Goes.go (fun _ k => XS.iconst X0.here hx rfl (hb hby at_10) k) ?_
  show Goes p e below s _ _ _ (s₁.setTop (mkF m 11 #[.val (.int p0), .val (.int p1), .val (.int p2), .val (.int p3), .val (.int p4), .val (.int ((p0 &&& (3 : Int32)) + (1 : Int32))), .unset, .unset, .unset] [(.int (1 : Int32)), (.int ((p0.toUInt32 >>> ((2 : Int32) &&& 31).toUInt32).toInt32))]))
  refine Goes.go (fun _ k => XS.iand X0.here hx rfl (hb hby at_11) rfl k) ?_
  show Goes p e below s _ _ _ (s₁.setTop (mkF m 12 #[.val (.int p0), .val (.int p1), .val (.int p2), .val (.int p3), .val (.int p4), .val (.int ((p0 &&& (3 : Int32)) + (1 : Int32))), .unset, .unset, .unset] [(.int (((p0.toUInt32 >>> ((2 : Int32) &&& 31).toUInt32).toInt32) &&& (1 : Int32)))]))
  obtain ⟨z1_s0, hz1_s0⟩ : ∃ z : Int32, z = if (((p0.toUInt32 >>> ((2 : Int32) &&& 31).toUInt32).toInt32) &&& (1 : Int32)) = (0 : Int32) then (0 : Int32) else (1 : Int32) := ⟨_, rfl⟩
  have sm1 : ∀ t, Steps p.tables e below (s₁.setTop (mkF m 20 #[.val (.int p0), .val (.int p1), .val (.int p2), .val (.int p3), .val (.int p4), .val (.int ((p0 &&& (3 : Int32)) + (1 : Int32))), .unset, .unset, .unset] [(.int z1_s0)])) t → Steps p.tables e below (s₁.setTop (mkF m 12 #[.val (.int p0), .val (.int p1), .val (.int p2), .val (.int p3), .val (.int p4), .val (.int ((p0 &&& (3 : Int32)) + (1 : Int32))), .unset, .unset, .unset] [(.int (((p0.toUInt32 >>> ((2 : Int32) &&& 31).toUInt32).toInt32) &&& (1 : Int32)))])) t := by
    intro t k
    by_cases hc12_1 : (((p0.toUInt32 >>> ((2 : Int32) &&& 31).toUInt32).toInt32) &&& (1 : Int32)) = (0 : Int32)
    · have k2 : Steps p.tables e below (s₁.setTop (mkF m 20 #[.val (.int p0), .val (.int p1), .val (.int p2), .val (.int p3), .val (.int p4), .val (.int ((p0 &&& (3 : Int32)) + (1 : Int32))), .unset, .unset, .unset] [(.int (0 : Int32))])) t := by simpa only [hz1_s0, if_pos hc12_1] using k
      show Steps p.tables e below (s₁.setTop (mkF m 12 #[.val (.int p0), .val (.int p1), .val (.int p2), .val (.int p3), .val (.int p4), .val (.int ((p0 &&& (3 : Int32)) + (1 : Int32))), .unset, .unset, .unset] [(.int (((p0.toUInt32 >>> ((2 : Int32) &&& 31).toUInt32).toInt32) &&& (1 : Int32)))])) _
      refine XS.ifYes X0.here hx rfl (pc0 := 12) (pc' := 19) rfl (hb hby at_12) rfl ((if0 _ _).trans (teq hc12_1).1) (by decide) (by decide) ?_
      show Steps p.tables e below (s₁.setTop (mkF m 19 #[.val (.int p0), .val (.int p1), .val (.int p2), .val (.int p3), .val (.int p4), .val (.int ((p0 &&& (3 : Int32)) + (1 : Int32))), .unset, .unset, .unset] [])) _
      refine XS.iconst X0.here hx rfl (hb hby at_19) ?_
      exact k2
    · have k2 : Steps p.tables e below (s₁.setTop (mkF m 20 #[.val (.int p0), .val (.int p1), .val (.int p2), .val (.int p3), .val (.int p4), .val (.int ((p0 &&& (3 : Int32)) + (1 : Int32))), .unset, .unset, .unset] [(.int (1 : Int32))])) t := by simpa only [hz1_s0, if_neg hc12_1] using k
      show Steps p.tables e below (s₁.setTop (mkF m 12 #[.val (.int p0), .val (.int p1), .val (.int p2), .val (.int p3), .val (.int p4), .val (.int ((p0 &&& (3 : Int32)) + (1 : Int32))), .unset, .unset, .unset] [(.int (((p0.toUInt32 >>> ((2 : Int32) &&& 31).toUInt32).toInt32) &&& (1 : Int32)))])) _
      refine XS.ifNo X0.here hx rfl (hb hby at_12) rfl ((if0 _ _).trans (feq hc12_1).1) ?_
      show Steps p.tables e below (s₁.setTop (mkF m 15 #[.val (.int p0), .val (.int p1), .val (.int p2), .val (.int p3), .val (.int p4), .val (.int ((p0 &&& (3 : Int32)) + (1 : Int32))), .unset, .unset, .unset] [])) _
      refine XS.iconst X0.here hx rfl (hb hby at_15) ?_
      show Steps p.tables e below (s₁.setTop (mkF m 16 #[.val (.int p0), .val (.int p1), .val (.int p2), .val (.int p3), .val (.int p4), .val (.int ((p0 &&& (3 : Int32)) + (1 : Int32))), .unset, .unset, .unset] [(.int (1 : Int32))])) _
      refine XS.goto X0.here hx rfl (pc0 := 16) (pc' := 20) rfl (hb hby at_16) (by decide) (by decide) ?_
      exact k2
  refine Goes.go sm1 ?_
  show Goes p e below s _ _ _ (s₁.setTop (mkF m 20 #[.val (.int p0), .val (.int p1), .val (.int p2), .val (.int p3), .val (.int p4), .val (.int ((p0 &&& (3 : Int32)) + (1 : Int32))), .unset, .unset, .unset] [(.int z1_s0)]))
  refine Goes.go (fun _ k => XS.istore X0.here hx rfl (hb hby at_20) rfl (l' := #[.val (.int p0), .val (.int p1), .val (.int p2), .val (.int p3), .val (.int p4), .val (.int ((p0 &&& (3 : Int32)) + (1 : Int32))), .val (.int z1_s0), .unset, .unset]) rfl k) ?_
  obtain ⟨n, hn, en⟩ := own_andN p0 3 2 (by decide) (by decide)
  have hn4 : n = 0 ∨ n = 1 ∨ n = 2 ∨ n = 3 := by omega
  rcases hn4 with rfl | rfl | rfl | rfl
  · rw [show ((p0 &&& (3 : Int32)) + (1 : Int32)) = (1 : Int32) from by rw [en]; rfl]
    show Goes p e below s _ _ _ (s₁.setTop (mkF m 22 #[.val (.int p0), .val (.int p1), .val (.int p2), .val (.int p3), .val (.int p4), .val (.int (1 : Int32)), .val (.int z1_s0), .unset, .unset] []))
    refine Goes.go (fun _ k => XS.iload X0.here hx rfl (hb hby at_22) rfl  k) ?_
    show Goes p e below s _ _ _ (s₁.setTop (mkF m 24 #[.val (.int p0), .val (.int p1), .val (.int p2), .val (.int p3), .val (.int p4), .val (.int (1 : Int32)), .val (.int z1_s0), .unset, .unset] [(.int (1 : Int32))]))
    obtain ⟨T2, h2, X2, e2, E2, A2, EA2, st2⟩ := own_newA X0 hx hZ (hw _ (List.mem_of_getElem? (i := 0) rfl)) e0 (g := (mkF m 24 #[.val (.int p0), .val (.int p1), .val (.int p2), .val (.int p3), .val (.int p4), .val (.int (1 : Int32)), .val (.int z1_s0), .unset, .unset] [(.int (1 : Int32))])) rfl (hb hby at_24) rfl (n := 1) rfl (cap := 1) (Nat.le_refl _) (by decide) (by decide) (by decide) (by decide) (by decide) (by decide : _ = "[B")
    obtain ⟨b2, g2⟩ : ∃ z, z = h0.size := ⟨_, rfl⟩
    rw [← g2] at A2 EA2 st2
    have gb2 : n0 ≤ b2 := Nat.le_trans Z0 (Nat.le_of_eq g2.symm)
    have sb2 : h0.size ≤ b2 := Nat.le_trans K0.1 (Nat.le_of_eq g2.symm)
    have Z2 := Nat.le_trans Z0 E2.1
    have K2 := Keep.ext K0 E2
    refine Goes.go st2 ?_
    show Goes p e below s _ _ _ (T2.setTop (mkF m 26 #[.val (.int p0), .val (.int p1), .val (.int p2), .val (.int p3), .val (.int p4), .val (.int (1 : Int32)), .val (.int z1_s0), .unset, .unset] [(.ref b2)]))
    refine Goes.go (fun _ k => XS.astore X2.here hx rfl (hb hby at_26) rfl rfl (l' := #[.val (.int p0), .val (.int p1), .val (.int p2), .val (.int p3), .val (.int p4), .val (.int (1 : Int32)), .val (.int z1_s0), .val (.ref b2), .unset]) rfl k) ?_
    show Goes p e below s _ _ _ (T2.setTop (mkF m 28 #[.val (.int p0), .val (.int p1), .val (.int p2), .val (.int p3), .val (.int p4), .val (.int (1 : Int32)), .val (.int z1_s0), .val (.ref b2), .unset] []))
    refine Goes.go (fun _ k => XS.aload X2.here hx rfl (hb hby at_28) rfl rfl  k) ?_
    show Goes p e below s _ _ _ (T2.setTop (mkF m 30 #[.val (.int p0), .val (.int p1), .val (.int p2), .val (.int p3), .val (.int p4), .val (.int (1 : Int32)), .val (.int z1_s0), .val (.ref b2), .unset] [(.ref b2)]))
    refine Goes.go (fun _ k => XS.iconst X2.here hx rfl (hb hby at_30) k) ?_
    show Goes p e below s _ _ _ (T2.setTop (mkF m 31 #[.val (.int p0), .val (.int p1), .val (.int p2), .val (.int p3), .val (.int p4), .val (.int (1 : Int32)), .val (.int z1_s0), .val (.ref b2), .unset] [(.int (0 : Int32)), (.ref b2)]))
    refine Goes.go (fun _ k => XS.iconst X2.here hx rfl (hb hby at_31) k) ?_
    show Goes p e below s _ _ _ (T2.setTop (mkF m 32 #[.val (.int p0), .val (.int p1), .val (.int p2), .val (.int p3), .val (.int p4), .val (.int (1 : Int32)), .val (.int z1_s0), .val (.ref b2), .unset] [(.int (0 : Int32)), (.int (0 : Int32)), (.ref b2)]))
    refine Goes.go (fun _ k => XS.iload X2.here hx rfl (hb hby at_32) rfl  k) ?_
    show Goes p e below s _ _ _ (T2.setTop (mkF m 34 #[.val (.int p0), .val (.int p1), .val (.int p2), .val (.int p3), .val (.int p4), .val (.int (1 : Int32)), .val (.int z1_s0), .val (.ref b2), .unset] [(.int (1 : Int32)), (.int (0 : Int32)), (.int (0 : Int32)), (.ref b2)]))
    refine Goes.go (fun _ k => XS.iload X2.here hx rfl (hb hby at_34) rfl  k) ?_
    show Goes p e below s _ _ _ (T2.setTop (mkF m 36 #[.val (.int p0), .val (.int p1), .val (.int p2), .val (.int p3), .val (.int p4), .val (.int (1 : Int32)), .val (.int z1_s0), .val (.ref b2), .unset] [(.int z1_s0), (.int (1 : Int32)), (.int (0 : Int32)), (.int (0 : Int32)), (.ref b2)]))
    refine Goes.go (fun _ k => XS.iloadN X2.here hx rfl (hb hby at_36) rfl  k) ?_
    show Goes p e below s _ _ _ (T2.setTop (mkF m 37 #[.val (.int p0), .val (.int p1), .val (.int p2), .val (.int p3), .val (.int p4), .val (.int (1 : Int32)), .val (.int z1_s0), .val (.ref b2), .unset] [(.int p1), (.int z1_s0), (.int (1 : Int32)), (.int (0 : Int32)), (.int (0 : Int32)), (.ref b2)]))
    refine Goes.go (fun _ k => XS.iloadN X2.here hx rfl (hb hby at_37) rfl  k) ?_
    show Goes p e below s _ _ _ (T2.setTop (mkF m 38 #[.val (.int p0), .val (.int p1), .val (.int p2), .val (.int p3), .val (.int p4), .val (.int (1 : Int32)), .val (.int z1_s0), .val (.ref b2), .unset] [(.int p2), (.int p1), (.int z1_s0), (.int (1 : Int32)), (.int (0 : Int32)), (.int (0 : Int32)), (.ref b2)]))
    refine Goes.go (fun _ k => XS.iloadN X2.here hx rfl (hb hby at_38) rfl  k) ?_
    show Goes p e below s _ _ _ (T2.setTop (mkF m 39 #[.val (.int p0), .val (.int p1), .val (.int p2), .val (.int p3), .val (.int p4), .val (.int (1 : Int32)), .val (.int z1_s0), .val (.ref b2), .unset] [(.int p3), (.int p2), (.int p1), (.int z1_s0), (.int (1 : Int32)), (.int (0 : Int32)), (.int (0 : Int32)), (.ref b2)]))
    refine Goes.go (fun _ k => XS.iload X2.here hx rfl (hb hby at_39) rfl  k) ?_
    show Goes p e below s _ _ _ (T2.setTop (mkF m 41 #[.val (.int p0), .val (.int p1), .val (.int p2), .val (.int p3), .val (.int p4), .val (.int (1 : Int32)), .val (.int z1_s0), .val (.ref b2), .unset] [(.int p4), (.int p3), (.int p2), (.int p1), (.int z1_s0), (.int (1 : Int32)), (.int (0 : Int32)), (.int (0 : Int32)), (.ref b2)]))
    obtain ⟨_, _, ⟨T3, L3, k3, n3⟩, -, X3, ⟨Lc3, hQ3, l3, y3, z3⟩, st3⟩ := Jvm.LawKit.callS X2 hx (y := (⟨"org/cardprobe/CheckCharacterWithWrongCheckPinLaw", "orig", "(IIZIIII)B"⟩ : MethodName)) hown (mvT hZ (hw _ (List.mem_of_getElem? (i := 1) rfl))) (mvT hZ (hw _ (List.mem_of_getElem? (i := 2) rfl))) (mvT hZ (hw _ (List.mem_of_getElem? (i := 3) rfl))) (mvT hZ (hw _ (List.mem_of_getElem? (i := 4) rfl))) (by decide) (backOf (W := 2) (rm1 l Z a0 hw [] (0 : Int32) (1 : Int32) z1_s0 p1 p2 p3 p4 h2 n0 Z2 ) hZ (hw _ (List.mem_of_getElem? (i := 4) rfl)) (hw _ (List.mem_of_getElem? (i := 3) rfl)) (by decide) (by decide)) (g := (mkF m 41 #[.val (.int p0), .val (.int p1), .val (.int p2), .val (.int p3), .val (.int p4), .val (.int (1 : Int32)), .val (.int z1_s0), .val (.ref b2), .unset] [(.int p4), (.int p3), (.int p2), (.int p1), (.int z1_s0), (.int (1 : Int32)), (.int (0 : Int32)), (.int (0 : Int32)), (.ref b2)])) rfl (by rw [hml]; rfl) (argsL := [(.int (0 : Int32)), (.int (1 : Int32)), (.int z1_s0), (.int p1), (.int p2), (.int p3), (.int p4)]) (rest := [(.int (0 : Int32)), (.ref b2)]) (lenOf pd_1 rfl) rfl (by show 2 * 0 + _ ≤ _; exact Nat.le_of_eq rfl) (hb hby at_41) (fun _ _ => ⟨rfl, e2, (by decide : 1 + 0 ≤ _), (by decide : 1 + 0 ≤ _)⟩)
    dsimp only [Pt.U, Pt.locs, Pt.cells, Pt.slots] at X3 l3 y3 z3 st3 hQ3
    subst l3 y3 z3
    obtain ⟨rfl, N3q, e3⟩ := hQ3
    have N3 := Fr.app N0 N3q
    refine Goes.go st3 ?_
    show Goes p e below s _ _ _ (T3.setTop (mkF m 44 #[.val (.int p0), .val (.int p1), .val (.int p2), .val (.int p3), .val (.int p4), .val (.int (1 : Int32)), .val (.int z1_s0), .val (.ref b2), .unset] [(.int (f1 (0 : Int32) (1 : Int32) z1_s0 p1 p2 p3 p4)), (.int (0 : Int32)), (.ref b2)]))
    obtain ⟨T4, h4, X4, e4, W4, A4, st4⟩ := own_stB X3 hx hZ e3 A2 (i := 0) rfl (by decide) (g := (mkF m 44 #[.val (.int p0), .val (.int p1), .val (.int p2), .val (.int p3), .val (.int p4), .val (.int (1 : Int32)), .val (.int z1_s0), .val (.ref b2), .unset] [(.int (f1 (0 : Int32) (1 : Int32) z1_s0 p1 p2 p3 p4)), (.int (0 : Int32)), (.ref b2)])) rfl rfl (hb hby at_44)
    have N4 := Fr.snoc X4 N3 gb2
    have Z4 := Nat.le_trans Z2 (Keep.of_wr W4).1
    have K4 := Keep.wr K2 W4 (Or.inr sb2)
    refine Goes.go st4 ?_
    show Goes p e below s _ _ _ (T4.setTop (mkF m 45 #[.val (.int p0), .val (.int p1), .val (.int p2), .val (.int p3), .val (.int p4), .val (.int (1 : Int32)), .val (.int z1_s0), .val (.ref b2), .unset] []))
    refine Goes.go (fun _ k => XS.iload X4.here hx rfl (hb hby at_45) rfl  k) ?_
    show Goes p e below s _ _ _ (T4.setTop (mkF m 47 #[.val (.int p0), .val (.int p1), .val (.int p2), .val (.int p3), .val (.int p4), .val (.int (1 : Int32)), .val (.int z1_s0), .val (.ref b2), .unset] [(.int (1 : Int32))]))
    refine Goes.go (fun _ k => XS.iconst X4.here hx rfl (hb hby at_47) k) ?_
    show Goes p e below s _ _ _ (T4.setTop (mkF m 48 #[.val (.int p0), .val (.int p1), .val (.int p2), .val (.int p3), .val (.int p4), .val (.int (1 : Int32)), .val (.int z1_s0), .val (.ref b2), .unset] [(.int (1 : Int32)), (.int (1 : Int32))]))
    have hc48_5 : ¬ ((1 : Int32) < (1 : Int32)) := (by decide)
    refine Goes.go (fun _ k => XS.icmpYes X4.here hx rfl (pc0 := 48) (pc' := 68) rfl (hb hby at_48) rfl (flt hc48_5).2.2.2 (by decide) (by decide) k) ?_
    show Goes p e below s _ _ _ (T4.setTop (mkF m 68 #[.val (.int p0), .val (.int p1), .val (.int p2), .val (.int p3), .val (.int p4), .val (.int (1 : Int32)), .val (.int z1_s0), .val (.ref b2), .unset] []))
    refine Goes.go (fun _ k => XS.iload X4.here hx rfl (hb hby at_68) rfl  k) ?_
    show Goes p e below s _ _ _ (T4.setTop (mkF m 70 #[.val (.int p0), .val (.int p1), .val (.int p2), .val (.int p3), .val (.int p4), .val (.int (1 : Int32)), .val (.int z1_s0), .val (.ref b2), .unset] [(.int (1 : Int32))]))
    refine Goes.go (fun _ k => XS.iconst X4.here hx rfl (hb hby at_70) k) ?_
    show Goes p e below s _ _ _ (T4.setTop (mkF m 71 #[.val (.int p0), .val (.int p1), .val (.int p2), .val (.int p3), .val (.int p4), .val (.int (1 : Int32)), .val (.int z1_s0), .val (.ref b2), .unset] [(.int (2 : Int32)), (.int (1 : Int32))]))
    have hc71_6 : ¬ ((2 : Int32) < (1 : Int32)) := (by decide)
    refine Goes.go (fun _ k => XS.icmpYes X4.here hx rfl (pc0 := 71) (pc' := 91) rfl (hb hby at_71) rfl (flt hc71_6).2.2.2 (by decide) (by decide) k) ?_
    show Goes p e below s _ _ _ (T4.setTop (mkF m 91 #[.val (.int p0), .val (.int p1), .val (.int p2), .val (.int p3), .val (.int p4), .val (.int (1 : Int32)), .val (.int z1_s0), .val (.ref b2), .unset] []))
    refine Goes.go (fun _ k => XS.iload X4.here hx rfl (hb hby at_91) rfl  k) ?_
    show Goes p e below s _ _ _ (T4.setTop (mkF m 93 #[.val (.int p0), .val (.int p1), .val (.int p2), .val (.int p3), .val (.int p4), .val (.int (1 : Int32)), .val (.int z1_s0), .val (.ref b2), .unset] [(.int (1 : Int32))]))
    refine Goes.go (fun _ k => XS.iconst X4.here hx rfl (hb hby at_93) k) ?_
    show Goes p e below s _ _ _ (T4.setTop (mkF m 94 #[.val (.int p0), .val (.int p1), .val (.int p2), .val (.int p3), .val (.int p4), .val (.int (1 : Int32)), .val (.int z1_s0), .val (.ref b2), .unset] [(.int (3 : Int32)), (.int (1 : Int32))]))
    have hc94_7 : ¬ ((3 : Int32) < (1 : Int32)) := (by decide)
    refine Goes.go (fun _ k => XS.icmpYes X4.here hx rfl (pc0 := 94) (pc' := 114) rfl (hb hby at_94) rfl (flt hc94_7).2.2.2 (by decide) (by decide) k) ?_
    show Goes p e below s _ _ _ (T4.setTop (mkF m 114 #[.val (.int p0), .val (.int p1), .val (.int p2), .val (.int p3), .val (.int p4), .val (.int (1 : Int32)), .val (.int z1_s0), .val (.ref b2), .unset] []))
    refine Goes.go (fun _ k => XS.aload X4.here hx rfl (hb hby at_114) rfl rfl  k) ?_
    show Goes p e below s _ _ _ (T4.setTop (mkF m 116 #[.val (.int p0), .val (.int p1), .val (.int p2), .val (.int p3), .val (.int p4), .val (.int (1 : Int32)), .val (.int z1_s0), .val (.ref b2), .unset] [(.ref b2)]))
    obtain ⟨_, _, ⟨T8, L8, k8, n8⟩, -, X8, ⟨Lc8, hQ8, l8, y8, z8⟩, st8⟩ := Jvm.LawKit.callS X4 hx (y := (⟨"org/cardprobe/CheckCharacter", "withWrongCheck", "([B)[B"⟩ : MethodName)) hown (mvT hZ (hw _ (List.mem_of_getElem? (i := 8) rfl))) (mvT hZ (hw _ (List.mem_of_getElem? (i := 9) rfl))) (mvT hZ (hw _ (List.mem_of_getElem? (i := 10) rfl))) (mvT hZ (hw _ (List.mem_of_getElem? (i := 11) rfl))) (by decide) (backOf (W := 0) (rm3 l Z a0 hw [] b2 1 (own_upd (fun _ => 0) 0 (nar .byte (f1 (0 : Int32) (1 : Int32) z1_s0 p1 p2 p3 p4))) h4 n0 Z4 A4 (EA2.wr W4) (by decide) (by decide)) hZ (hw _ (List.mem_of_getElem? (i := 11) rfl)) (hw _ (List.mem_of_getElem? (i := 10) rfl)) (by decide) (by decide)) (g := (mkF m 116 #[.val (.int p0), .val (.int p1), .val (.int p2), .val (.int p3), .val (.int p4), .val (.int (1 : Int32)), .val (.int z1_s0), .val (.ref b2), .unset] [(.ref b2)])) rfl (by rw [hml]; rfl) (argsL := [(.ref b2)]) (rest := []) (lenOf pd_2 rfl) rfl (by show 2 * 0 + _ ≤ _; exact Nat.le_of_eq rfl) (hb hby at_116) (fun _ _ => ⟨rfl, e4, (by decide : 1 + 1 ≤ _), (by decide : 1 + 4 ≤ _)⟩)
    dsimp only [Pt.U, Pt.locs, Pt.cells, Pt.slots] at X8 l8 y8 z8 st8 hQ8
    subst l8 y8 z8
    obtain ⟨h8, e8⟩ : ∃ z, T8.heap = z := ⟨_, rfl⟩
    rw [e8] at hQ8
    obtain ⟨c8_mw, sb_c8_mw, rfl, N8q, Kq8, G8_0⟩ := hQ8
    have N8 := Fr.app N4 N8q
    have gb_c8_mw : n0 ≤ c8_mw := Nat.le_trans Z4 sb_c8_mw
    have sh_c8_mw : h0.size ≤ c8_mw := Nat.le_trans K4.1 sb_c8_mw
    have K8 := Keep.trans K4 Kq8 all0
    have Z8 := Nat.le_trans Z4 Kq8.1
    refine Goes.go st8 ?_
    show Goes p e below s _ _ _ (T8.setTop (mkF m 119 #[.val (.int p0), .val (.int p1), .val (.int p2), .val (.int p3), .val (.int p4), .val (.int (1 : Int32)), .val (.int z1_s0), .val (.ref b2), .unset] [(.ref c8_mw)]))
    refine Goes.go (fun _ k => XS.astore X8.here hx rfl (hb hby at_119) rfl rfl (l' := #[.val (.int p0), .val (.int p1), .val (.int p2), .val (.int p3), .val (.int p4), .val (.int (1 : Int32)), .val (.int z1_s0), .val (.ref b2), .val (.ref c8_mw)]) rfl k) ?_
    show Goes p e below s _ _ _ (T8.setTop (mkF m 121 #[.val (.int p0), .val (.int p1), .val (.int p2), .val (.int p3), .val (.int p4), .val (.int (1 : Int32)), .val (.int z1_s0), .val (.ref b2), .val (.ref c8_mw)] []))
    refine Goes.go (fun _ k => XS.aload X8.here hx rfl (hb hby at_121) rfl rfl  k) ?_
    show Goes p e below s _ _ _ (T8.setTop (mkF m 123 #[.val (.int p0), .val (.int p1), .val (.int p2), .val (.int p3), .val (.int p4), .val (.int (1 : Int32)), .val (.int z1_s0), .val (.ref b2), .val (.ref c8_mw)] [(.ref c8_mw)]))
    refine Goes.go (fun _ k => XS.aload X8.here hx rfl (hb hby at_123) rfl rfl  k) ?_
    show Goes p e below s _ _ _ (T8.setTop (mkF m 125 #[.val (.int p0), .val (.int p1), .val (.int p2), .val (.int p3), .val (.int p4), .val (.int (1 : Int32)), .val (.int z1_s0), .val (.ref b2), .val (.ref c8_mw)] [(.ref b2), (.ref c8_mw)]))
    refine Goes.go (fun _ k => Jvm.RoadKit.acmp (g := (mkF m 125 #[.val (.int p0), .val (.int p1), .val (.int p2), .val (.int p3), .val (.int p4), .val (.int (1 : Int32)), .val (.int z1_s0), .val (.ref b2), .val (.ref c8_mw)] [(.ref b2), (.ref c8_mw)])) X8 hx rfl rfl rfl (pc0 := 125) (pc' := 130) (same := false) rfl (hb hby at_125) rfl (decide_eq_false fun q => (Ne.symm (Nat.ne_of_lt (Nat.lt_of_lt_of_le A4.lt sb_c8_mw))) (Value.ref.inj q)) (by decide) (by decide) k) ?_
    show Goes p e below s _ _ _ (T8.setTop (mkF m 130 #[.val (.int p0), .val (.int p1), .val (.int p2), .val (.int p3), .val (.int p4), .val (.int (1 : Int32)), .val (.int z1_s0), .val (.ref b2), .val (.ref c8_mw)] []))
    refine Goes.go (fun _ k => XS.aload X8.here hx rfl (hb hby at_130) rfl rfl  k) ?_
    show Goes p e below s _ _ _ (T8.setTop (mkF m 132 #[.val (.int p0), .val (.int p1), .val (.int p2), .val (.int p3), .val (.int p4), .val (.int (1 : Int32)), .val (.int z1_s0), .val (.ref b2), .val (.ref c8_mw)] [(.ref c8_mw)]))
    refine Goes.go (own_len X8 hx hZ e8 G8_0 (g := (mkF m 132 #[.val (.int p0), .val (.int p1), .val (.int p2), .val (.int p3), .val (.int p4), .val (.int (1 : Int32)), .val (.int z1_s0), .val (.ref b2), .val (.ref c8_mw)] [(.ref c8_mw)])) rfl rfl (hb hby at_132)) ?_
    show Goes p e below s _ _ _ (T8.setTop (mkF m 133 #[.val (.int p0), .val (.int p1), .val (.int p2), .val (.int p3), .val (.int p4), .val (.int (1 : Int32)), .val (.int z1_s0), .val (.ref b2), .val (.ref c8_mw)] [(.int (1 : Int32))]))
    refine Goes.go (fun _ k => XS.iload X8.here hx rfl (hb hby at_133) rfl  k) ?_
    show Goes p e below s _ _ _ (T8.setTop (mkF m 135 #[.val (.int p0), .val (.int p1), .val (.int p2), .val (.int p3), .val (.int p4), .val (.int (1 : Int32)), .val (.int z1_s0), .val (.ref b2), .val (.ref c8_mw)] [(.int (1 : Int32)), (.int (1 : Int32))]))
    have hc135_10 : (1 : Int32) = (1 : Int32) := (by decide)
    refine Goes.go (fun _ k => XS.icmpYes X8.here hx rfl (pc0 := 135) (pc' := 140) rfl (hb hby at_135) rfl (teq hc135_10).1 (by decide) (by decide) k) ?_
    show Goes p e below s _ _ _ (T8.setTop (mkF m 140 #[.val (.int p0), .val (.int p1), .val (.int p2), .val (.int p3), .val (.int p4), .val (.int (1 : Int32)), .val (.int z1_s0), .val (.ref b2), .val (.ref c8_mw)] []))
    refine Goes.go (fun _ k => XS.iconst X8.here hx rfl (hb hby at_140) k) ?_
    show Goes p e below s _ _ _ (T8.setTop (mkF m 141 #[.val (.int p0), .val (.int p1), .val (.int p2), .val (.int p3), .val (.int p4), .val (.int (1 : Int32)), .val (.int z1_s0), .val (.ref b2), .val (.ref c8_mw)] [(.int (0 : Int32))]))
    refine Goes.go (fun _ k => XS.iload X8.here hx rfl (hb hby at_141) rfl  k) ?_
    show Goes p e below s _ _ _ (T8.setTop (mkF m 143 #[.val (.int p0), .val (.int p1), .val (.int p2), .val (.int p3), .val (.int p4), .val (.int (1 : Int32)), .val (.int z1_s0), .val (.ref b2), .val (.ref c8_mw)] [(.int (1 : Int32)), (.int (0 : Int32))]))
    refine Goes.go (fun _ k => XS.iload X8.here hx rfl (hb hby at_143) rfl  k) ?_
    show Goes p e below s _ _ _ (T8.setTop (mkF m 145 #[.val (.int p0), .val (.int p1), .val (.int p2), .val (.int p3), .val (.int p4), .val (.int (1 : Int32)), .val (.int z1_s0), .val (.ref b2), .val (.ref c8_mw)] [(.int z1_s0), (.int (1 : Int32)), (.int (0 : Int32))]))
    refine Goes.go (fun _ k => XS.aload X8.here hx rfl (hb hby at_145) rfl rfl  k) ?_
    show Goes p e below s _ _ _ (T8.setTop (mkF m 147 #[.val (.int p0), .val (.int p1), .val (.int p2), .val (.int p3), .val (.int p4), .val (.int (1 : Int32)), .val (.int z1_s0), .val (.ref b2), .val (.ref c8_mw)] [(.ref b2), (.int z1_s0), (.int (1 : Int32)), (.int (0 : Int32))]))
    refine Goes.go (fun _ k => XS.aload X8.here hx rfl (hb hby at_147) rfl rfl  k) ?_
    show Goes p e below s _ _ _ (T8.setTop (mkF m 149 #[.val (.int p0), .val (.int p1), .val (.int p2), .val (.int p3), .val (.int p4), .val (.int (1 : Int32)), .val (.int z1_s0), .val (.ref b2), .val (.ref c8_mw)] [(.ref c8_mw), (.ref b2), (.int z1_s0), (.int (1 : Int32)), (.int (0 : Int32))]))
    refine Goes.go (fun _ k => XS.iloadN X8.here hx rfl (hb hby at_149) rfl  k) ?_
    show Goes p e below s _ _ _ (T8.setTop (mkF m 150 #[.val (.int p0), .val (.int p1), .val (.int p2), .val (.int p3), .val (.int p4), .val (.int (1 : Int32)), .val (.int z1_s0), .val (.ref b2), .val (.ref c8_mw)] [(.int p1), (.ref c8_mw), (.ref b2), (.int z1_s0), (.int (1 : Int32)), (.int (0 : Int32))]))
    refine Goes.go (fun _ k => XS.iloadN X8.here hx rfl (hb hby at_150) rfl  k) ?_
    show Goes p e below s _ _ _ (T8.setTop (mkF m 151 #[.val (.int p0), .val (.int p1), .val (.int p2), .val (.int p3), .val (.int p4), .val (.int (1 : Int32)), .val (.int z1_s0), .val (.ref b2), .val (.ref c8_mw)] [(.int p2), (.int p1), (.ref c8_mw), (.ref b2), (.int z1_s0), (.int (1 : Int32)), (.int (0 : Int32))]))
    refine Goes.go (fun _ k => XS.iloadN X8.here hx rfl (hb hby at_151) rfl  k) ?_
    show Goes p e below s _ _ _ (T8.setTop (mkF m 152 #[.val (.int p0), .val (.int p1), .val (.int p2), .val (.int p3), .val (.int p4), .val (.int (1 : Int32)), .val (.int z1_s0), .val (.ref b2), .val (.ref c8_mw)] [(.int p3), (.int p2), (.int p1), (.ref c8_mw), (.ref b2), (.int z1_s0), (.int (1 : Int32)), (.int (0 : Int32))]))
    refine Goes.go (fun _ k => XS.iload X8.here hx rfl (hb hby at_152) rfl  k) ?_
    show Goes p e below s _ _ _ (T8.setTop (mkF m 154 #[.val (.int p0), .val (.int p1), .val (.int p2), .val (.int p3), .val (.int p4), .val (.int (1 : Int32)), .val (.int z1_s0), .val (.ref b2), .val (.ref c8_mw)] [(.int p4), (.int p3), (.int p2), (.int p1), (.ref c8_mw), (.ref b2), (.int z1_s0), (.int (1 : Int32)), (.int (0 : Int32))]))
    obtain ⟨_, _, ⟨T11, L11, k11, n11⟩, -, X11, ⟨Lc11, hQ11, l11, y11, z11⟩, st11⟩ := Jvm.LawKit.callS X8 hx (y := (⟨"org/cardprobe/CheckCharacterWithWrongCheckPinLaw", "slotOk", "(IIZ[B[BIIII)Z"⟩ : MethodName)) hown (mvT hZ (hw _ (List.mem_of_getElem? (i := 21) rfl))) (mvT hZ (hw _ (List.mem_of_getElem? (i := 22) rfl))) (mvT hZ (hw _ (List.mem_of_getElem? (i := 3) rfl))) (mvT hZ (hw _ (List.mem_of_getElem? (i := 23) rfl))) (by decide) (backOf (W := 0) (rm4 l Z a0 hw [] (0 : Int32) (1 : Int32) z1_s0 b2 c8_mw p1 p2 p3 p4 1 (own_upd (fun _ => 0) 0 (nar .byte (f1 (0 : Int32) (1 : Int32) z1_s0 p1 p2 p3 p4))) 1 (own_upd (own_upd (fun _ => 0) 0 (nar .byte (f1 (0 : Int32) (1 : Int32) z1_s0 p1 p2 p3 p4))) (1 - 1) (nar .byte ((if ((own_upd (fun _ => 0) 0 (nar .byte (f1 (0 : Int32) (1 : Int32) z1_s0 p1 p2 p3 p4))) (1 - 1)) = (0 : Int32) then (255 : Int32) else (0 : Int32)).toInt8.toInt32))) 0 h8 n0 Z8 (A4.keep Kq8 nin0) G8_0 rfl rfl rfl (by decide)) hZ (hw _ (List.mem_of_getElem? (i := 23) rfl)) (hw _ (List.mem_of_getElem? (i := 3) rfl)) (by decide) (by decide)) (g := (mkF m 154 #[.val (.int p0), .val (.int p1), .val (.int p2), .val (.int p3), .val (.int p4), .val (.int (1 : Int32)), .val (.int z1_s0), .val (.ref b2), .val (.ref c8_mw)] [(.int p4), (.int p3), (.int p2), (.int p1), (.ref c8_mw), (.ref b2), (.int z1_s0), (.int (1 : Int32)), (.int (0 : Int32))])) rfl (by rw [hml]; rfl) (argsL := [(.int (0 : Int32)), (.int (1 : Int32)), (.int z1_s0), (.ref b2), (.ref c8_mw), (.int p1), (.int p2), (.int p3), (.int p4)]) (rest := []) (lenOf pd_3 rfl) rfl (by show 2 * 0 + _ ≤ _; exact Nat.le_of_eq rfl) (hb hby at_154) (fun _ _ => ⟨rfl, e8, (by decide : 2 + 0 ≤ _), (by decide : 5 + 0 ≤ _)⟩)
    dsimp only [Pt.U, Pt.locs, Pt.cells, Pt.slots] at X11 l11 y11 z11 st11 hQ11
    subst l11 y11 z11
    obtain ⟨rfl, N11q, e11⟩ := hQ11
    have N11 := Fr.app N8 N11q
    refine Goes.go st11 ?_
    show Goes p e below s _ _ _ (T11.setTop (mkF m 157 #[.val (.int p0), .val (.int p1), .val (.int p2), .val (.int p3), .val (.int p4), .val (.int (1 : Int32)), .val (.int z1_s0), .val (.ref b2), .val (.ref c8_mw)] [(.int (f4 (0 : Int32) (1 : Int32) z1_s0 b2 c8_mw p1 p2 p3 p4 1 (own_upd (fun _ => 0) 0 (nar .byte (f1 (0 : Int32) (1 : Int32) z1_s0 p1 p2 p3 p4))) 1 (own_upd (own_upd (fun _ => 0) 0 (nar .byte (f1 (0 : Int32) (1 : Int32) z1_s0 p1 p2 p3 p4))) (1 - 1) (nar .byte ((if ((own_upd (fun _ => 0) 0 (nar .byte (f1 (0 : Int32) (1 : Int32) z1_s0 p1 p2 p3 p4))) (1 - 1)) = (0 : Int32) then (255 : Int32) else (0 : Int32)).toInt8.toInt32))) 0))]))
    have hc157_12 : ¬ ((f4 (0 : Int32) (1 : Int32) z1_s0 b2 c8_mw p1 p2 p3 p4 1 (own_upd (fun _ => 0) 0 (nar .byte (f1 (0 : Int32) (1 : Int32) z1_s0 p1 p2 p3 p4))) 1 (own_upd (own_upd (fun _ => 0) 0 (nar .byte (f1 (0 : Int32) (1 : Int32) z1_s0 p1 p2 p3 p4))) (1 - 1) (nar .byte ((if ((own_upd (fun _ => 0) 0 (nar .byte (f1 (0 : Int32) (1 : Int32) z1_s0 p1 p2 p3 p4))) (1 - 1)) = (0 : Int32) then (255 : Int32) else (0 : Int32)).toInt8.toInt32))) 0) = (0 : Int32)) := own_last (by decide) (by decide) (own_f1b _ _ _ _ _ _ _) rfl
    refine Goes.go (fun _ k => XS.ifNo X11.here hx rfl (hb hby at_157) rfl ((if0 _ _).trans (feq hc157_12).1) k) ?_
    show Goes p e below s _ _ _ (T11.setTop (mkF m 160 #[.val (.int p0), .val (.int p1), .val (.int p2), .val (.int p3), .val (.int p4), .val (.int (1 : Int32)), .val (.int z1_s0), .val (.ref b2), .val (.ref c8_mw)] []))
    refine Goes.go (fun _ k => XS.iconst X11.here hx rfl (hb hby at_160) k) ?_
    show Goes p e below s _ _ _ (T11.setTop (mkF m 161 #[.val (.int p0), .val (.int p1), .val (.int p2), .val (.int p3), .val (.int p4), .val (.int (1 : Int32)), .val (.int z1_s0), .val (.ref b2), .val (.ref c8_mw)] [(.int (1 : Int32))]))
    refine Goes.go (fun _ k => XS.iload X11.here hx rfl (hb hby at_161) rfl  k) ?_
    show Goes p e below s _ _ _ (T11.setTop (mkF m 163 #[.val (.int p0), .val (.int p1), .val (.int p2), .val (.int p3), .val (.int p4), .val (.int (1 : Int32)), .val (.int z1_s0), .val (.ref b2), .val (.ref c8_mw)] [(.int (1 : Int32)), (.int (1 : Int32))]))
    refine Goes.go (fun _ k => XS.iload X11.here hx rfl (hb hby at_163) rfl  k) ?_
    show Goes p e below s _ _ _ (T11.setTop (mkF m 165 #[.val (.int p0), .val (.int p1), .val (.int p2), .val (.int p3), .val (.int p4), .val (.int (1 : Int32)), .val (.int z1_s0), .val (.ref b2), .val (.ref c8_mw)] [(.int z1_s0), (.int (1 : Int32)), (.int (1 : Int32))]))
    refine Goes.go (fun _ k => XS.aload X11.here hx rfl (hb hby at_165) rfl rfl  k) ?_
    show Goes p e below s _ _ _ (T11.setTop (mkF m 167 #[.val (.int p0), .val (.int p1), .val (.int p2), .val (.int p3), .val (.int p4), .val (.int (1 : Int32)), .val (.int z1_s0), .val (.ref b2), .val (.ref c8_mw)] [(.ref b2), (.int z1_s0), (.int (1 : Int32)), (.int (1 : Int32))]))
    refine Goes.go (fun _ k => XS.aload X11.here hx rfl (hb hby at_167) rfl rfl  k) ?_
    show Goes p e below s _ _ _ (T11.setTop (mkF m 169 #[.val (.int p0), .val (.int p1), .val (.int p2), .val (.int p3), .val (.int p4), .val (.int (1 : Int32)), .val (.int z1_s0), .val (.ref b2), .val (.ref c8_mw)] [(.ref c8_mw), (.ref b2), (.int z1_s0), (.int (1 : Int32)), (.int (1 : Int32))]))
    refine Goes.go (fun _ k => XS.iloadN X11.here hx rfl (hb hby at_169) rfl  k) ?_
    show Goes p e below s _ _ _ (T11.setTop (mkF m 170 #[.val (.int p0), .val (.int p1), .val (.int p2), .val (.int p3), .val (.int p4), .val (.int (1 : Int32)), .val (.int z1_s0), .val (.ref b2), .val (.ref c8_mw)] [(.int p1), (.ref c8_mw), (.ref b2), (.int z1_s0), (.int (1 : Int32)), (.int (1 : Int32))]))
    refine Goes.go (fun _ k => XS.iloadN X11.here hx rfl (hb hby at_170) rfl  k) ?_
    show Goes p e below s _ _ _ (T11.setTop (mkF m 171 #[.val (.int p0), .val (.int p1), .val (.int p2), .val (.int p3), .val (.int p4), .val (.int (1 : Int32)), .val (.int z1_s0), .val (.ref b2), .val (.ref c8_mw)] [(.int p2), (.int p1), (.ref c8_mw), (.ref b2), (.int z1_s0), (.int (1 : Int32)), (.int (1 : Int32))]))
    refine Goes.go (fun _ k => XS.iloadN X11.here hx rfl (hb hby at_171) rfl  k) ?_
    show Goes p e below s _ _ _ (T11.setTop (mkF m 172 #[.val (.int p0), .val (.int p1), .val (.int p2), .val (.int p3), .val (.int p4), .val (.int (1 : Int32)), .val (.int z1_s0), .val (.ref b2), .val (.ref c8_mw)] [(.int p3), (.int p2), (.int p1), (.ref c8_mw), (.ref b2), (.int z1_s0), (.int (1 : Int32)), (.int (1 : Int32))]))
    refine Goes.go (fun _ k => XS.iload X11.here hx rfl (hb hby at_172) rfl  k) ?_
    show Goes p e below s _ _ _ (T11.setTop (mkF m 174 #[.val (.int p0), .val (.int p1), .val (.int p2), .val (.int p3), .val (.int p4), .val (.int (1 : Int32)), .val (.int z1_s0), .val (.ref b2), .val (.ref c8_mw)] [(.int p4), (.int p3), (.int p2), (.int p1), (.ref c8_mw), (.ref b2), (.int z1_s0), (.int (1 : Int32)), (.int (1 : Int32))]))
    obtain ⟨_, _, ⟨T13, L13, k13, n13⟩, -, X13, ⟨Lc13, hQ13, l13, y13, z13⟩, st13⟩ := Jvm.LawKit.callS X11 hx (y := (⟨"org/cardprobe/CheckCharacterWithWrongCheckPinLaw", "slotOk", "(IIZ[B[BIIII)Z"⟩ : MethodName)) hown (mvT hZ (hw _ (List.mem_of_getElem? (i := 21) rfl))) (mvT hZ (hw _ (List.mem_of_getElem? (i := 22) rfl))) (mvT hZ (hw _ (List.mem_of_getElem? (i := 3) rfl))) (mvT hZ (hw _ (List.mem_of_getElem? (i := 23) rfl))) (by decide) (backOf (W := 0) (rm4 l Z a0 hw [] (1 : Int32) (1 : Int32) z1_s0 b2 c8_mw p1 p2 p3 p4 1 (own_upd (fun _ => 0) 0 (nar .byte (f1 (0 : Int32) (1 : Int32) z1_s0 p1 p2 p3 p4))) 1 (own_upd (own_upd (fun _ => 0) 0 (nar .byte (f1 (0 : Int32) (1 : Int32) z1_s0 p1 p2 p3 p4))) (1 - 1) (nar .byte ((if ((own_upd (fun _ => 0) 0 (nar .byte (f1 (0 : Int32) (1 : Int32) z1_s0 p1 p2 p3 p4))) (1 - 1)) = (0 : Int32) then (255 : Int32) else (0 : Int32)).toInt8.toInt32))) 1 h8 n0 Z8 (A4.keep Kq8 nin0) G8_0 rfl rfl rfl (by decide)) hZ (hw _ (List.mem_of_getElem? (i := 23) rfl)) (hw _ (List.mem_of_getElem? (i := 3) rfl)) (by decide) (by decide)) (g := (mkF m 174 #[.val (.int p0), .val (.int p1), .val (.int p2), .val (.int p3), .val (.int p4), .val (.int (1 : Int32)), .val (.int z1_s0), .val (.ref b2), .val (.ref c8_mw)] [(.int p4), (.int p3), (.int p2), (.int p1), (.ref c8_mw), (.ref b2), (.int z1_s0), (.int (1 : Int32)), (.int (1 : Int32))])) rfl (by rw [hml]; rfl) (argsL := [(.int (1 : Int32)), (.int (1 : Int32)), (.int z1_s0), (.ref b2), (.ref c8_mw), (.int p1), (.int p2), (.int p3), (.int p4)]) (rest := []) (lenOf pd_3 rfl) rfl (by show 2 * 0 + _ ≤ _; exact Nat.le_of_eq rfl) (hb hby at_174) (fun _ _ => ⟨rfl, e11, (by decide : 2 + 0 ≤ _), (by decide : 5 + 0 ≤ _)⟩)
    dsimp only [Pt.U, Pt.locs, Pt.cells, Pt.slots] at X13 l13 y13 z13 st13 hQ13
    subst l13 y13 z13
    obtain ⟨rfl, N13q, e13⟩ := hQ13
    have N13 := Fr.app N11 N13q
    refine Goes.go st13 ?_
    show Goes p e below s _ _ _ (T13.setTop (mkF m 177 #[.val (.int p0), .val (.int p1), .val (.int p2), .val (.int p3), .val (.int p4), .val (.int (1 : Int32)), .val (.int z1_s0), .val (.ref b2), .val (.ref c8_mw)] [(.int (f4 (1 : Int32) (1 : Int32) z1_s0 b2 c8_mw p1 p2 p3 p4 1 (own_upd (fun _ => 0) 0 (nar .byte (f1 (0 : Int32) (1 : Int32) z1_s0 p1 p2 p3 p4))) 1 (own_upd (own_upd (fun _ => 0) 0 (nar .byte (f1 (0 : Int32) (1 : Int32) z1_s0 p1 p2 p3 p4))) (1 - 1) (nar .byte ((if ((own_upd (fun _ => 0) 0 (nar .byte (f1 (0 : Int32) (1 : Int32) z1_s0 p1 p2 p3 p4))) (1 - 1)) = (0 : Int32) then (255 : Int32) else (0 : Int32)).toInt8.toInt32))) 1))]))
    have hc177_14 : ¬ ((f4 (1 : Int32) (1 : Int32) z1_s0 b2 c8_mw p1 p2 p3 p4 1 (own_upd (fun _ => 0) 0 (nar .byte (f1 (0 : Int32) (1 : Int32) z1_s0 p1 p2 p3 p4))) 1 (own_upd (own_upd (fun _ => 0) 0 (nar .byte (f1 (0 : Int32) (1 : Int32) z1_s0 p1 p2 p3 p4))) (1 - 1) (nar .byte ((if ((own_upd (fun _ => 0) 0 (nar .byte (f1 (0 : Int32) (1 : Int32) z1_s0 p1 p2 p3 p4))) (1 - 1)) = (0 : Int32) then (255 : Int32) else (0 : Int32)).toInt8.toInt32))) 1) = (0 : Int32)) := own_far (by decide)
    refine Goes.go (fun _ k => XS.ifNo X13.here hx rfl (hb hby at_177) rfl ((if0 _ _).trans (feq hc177_14).1) k) ?_
    show Goes p e below s _ _ _ (T13.setTop (mkF m 180 #[.val (.int p0), .val (.int p1), .val (.int p2), .val (.int p3), .val (.int p4), .val (.int (1 : Int32)), .val (.int z1_s0), .val (.ref b2), .val (.ref c8_mw)] []))
    refine Goes.go (fun _ k => XS.iconst X13.here hx rfl (hb hby at_180) k) ?_
    show Goes p e below s _ _ _ (T13.setTop (mkF m 181 #[.val (.int p0), .val (.int p1), .val (.int p2), .val (.int p3), .val (.int p4), .val (.int (1 : Int32)), .val (.int z1_s0), .val (.ref b2), .val (.ref c8_mw)] [(.int (2 : Int32))]))
    refine Goes.go (fun _ k => XS.iload X13.here hx rfl (hb hby at_181) rfl  k) ?_
    show Goes p e below s _ _ _ (T13.setTop (mkF m 183 #[.val (.int p0), .val (.int p1), .val (.int p2), .val (.int p3), .val (.int p4), .val (.int (1 : Int32)), .val (.int z1_s0), .val (.ref b2), .val (.ref c8_mw)] [(.int (1 : Int32)), (.int (2 : Int32))]))
    refine Goes.go (fun _ k => XS.iload X13.here hx rfl (hb hby at_183) rfl  k) ?_
    show Goes p e below s _ _ _ (T13.setTop (mkF m 185 #[.val (.int p0), .val (.int p1), .val (.int p2), .val (.int p3), .val (.int p4), .val (.int (1 : Int32)), .val (.int z1_s0), .val (.ref b2), .val (.ref c8_mw)] [(.int z1_s0), (.int (1 : Int32)), (.int (2 : Int32))]))
    refine Goes.go (fun _ k => XS.aload X13.here hx rfl (hb hby at_185) rfl rfl  k) ?_
    show Goes p e below s _ _ _ (T13.setTop (mkF m 187 #[.val (.int p0), .val (.int p1), .val (.int p2), .val (.int p3), .val (.int p4), .val (.int (1 : Int32)), .val (.int z1_s0), .val (.ref b2), .val (.ref c8_mw)] [(.ref b2), (.int z1_s0), (.int (1 : Int32)), (.int (2 : Int32))]))
    refine Goes.go (fun _ k => XS.aload X13.here hx rfl (hb hby at_187) rfl rfl  k) ?_
    show Goes p e below s _ _ _ (T13.setTop (mkF m 189 #[.val (.int p0), .val (.int p1), .val (.int p2), .val (.int p3), .val (.int p4), .val (.int (1 : Int32)), .val (.int z1_s0), .val (.ref b2), .val (.ref c8_mw)] [(.ref c8_mw), (.ref b2), (.int z1_s0), (.int (1 : Int32)), (.int (2 : Int32))]))
    refine Goes.go (fun _ k => XS.iloadN X13.here hx rfl (hb hby at_189) rfl  k) ?_
    show Goes p e below s _ _ _ (T13.setTop (mkF m 190 #[.val (.int p0), .val (.int p1), .val (.int p2), .val (.int p3), .val (.int p4), .val (.int (1 : Int32)), .val (.int z1_s0), .val (.ref b2), .val (.ref c8_mw)] [(.int p1), (.ref c8_mw), (.ref b2), (.int z1_s0), (.int (1 : Int32)), (.int (2 : Int32))]))
    refine Goes.go (fun _ k => XS.iloadN X13.here hx rfl (hb hby at_190) rfl  k) ?_
    show Goes p e below s _ _ _ (T13.setTop (mkF m 191 #[.val (.int p0), .val (.int p1), .val (.int p2), .val (.int p3), .val (.int p4), .val (.int (1 : Int32)), .val (.int z1_s0), .val (.ref b2), .val (.ref c8_mw)] [(.int p2), (.int p1), (.ref c8_mw), (.ref b2), (.int z1_s0), (.int (1 : Int32)), (.int (2 : Int32))]))
    refine Goes.go (fun _ k => XS.iloadN X13.here hx rfl (hb hby at_191) rfl  k) ?_
    show Goes p e below s _ _ _ (T13.setTop (mkF m 192 #[.val (.int p0), .val (.int p1), .val (.int p2), .val (.int p3), .val (.int p4), .val (.int (1 : Int32)), .val (.int z1_s0), .val (.ref b2), .val (.ref c8_mw)] [(.int p3), (.int p2), (.int p1), (.ref c8_mw), (.ref b2), (.int z1_s0), (.int (1 : Int32)), (.int (2 : Int32))]))
    refine Goes.go (fun _ k => XS.iload X13.here hx rfl (hb hby at_192) rfl  k) ?_
    show Goes p e below s _ _ _ (T13.setTop (mkF m 194 #[.val (.int p0), .val (.int p1), .val (.int p2), .val (.int p3), .val (.int p4), .val (.int (1 : Int32)), .val (.int z1_s0), .val (.ref b2), .val (.ref c8_mw)] [(.int p4), (.int p3), (.int p2), (.int p1), (.ref c8_mw), (.ref b2), (.int z1_s0), (.int (1 : Int32)), (.int (2 : Int32))]))
    obtain ⟨_, _, ⟨T15, L15, k15, n15⟩, -, X15, ⟨Lc15, hQ15, l15, y15, z15⟩, st15⟩ := Jvm.LawKit.callS X13 hx (y := (⟨"org/cardprobe/CheckCharacterWithWrongCheckPinLaw", "slotOk", "(IIZ[B[BIIII)Z"⟩ : MethodName)) hown (mvT hZ (hw _ (List.mem_of_getElem? (i := 21) rfl))) (mvT hZ (hw _ (List.mem_of_getElem? (i := 22) rfl))) (mvT hZ (hw _ (List.mem_of_getElem? (i := 3) rfl))) (mvT hZ (hw _ (List.mem_of_getElem? (i := 23) rfl))) (by decide) (backOf (W := 0) (rm4 l Z a0 hw [] (2 : Int32) (1 : Int32) z1_s0 b2 c8_mw p1 p2 p3 p4 1 (own_upd (fun _ => 0) 0 (nar .byte (f1 (0 : Int32) (1 : Int32) z1_s0 p1 p2 p3 p4))) 1 (own_upd (own_upd (fun _ => 0) 0 (nar .byte (f1 (0 : Int32) (1 : Int32) z1_s0 p1 p2 p3 p4))) (1 - 1) (nar .byte ((if ((own_upd (fun _ => 0) 0 (nar .byte (f1 (0 : Int32) (1 : Int32) z1_s0 p1 p2 p3 p4))) (1 - 1)) = (0 : Int32) then (255 : Int32) else (0 : Int32)).toInt8.toInt32))) 2 h8 n0 Z8 (A4.keep Kq8 nin0) G8_0 rfl rfl rfl (by decide)) hZ (hw _ (List.mem_of_getElem? (i := 23) rfl)) (hw _ (List.mem_of_getElem? (i := 3) rfl)) (by decide) (by decide)) (g := (mkF m 194 #[.val (.int p0), .val (.int p1), .val (.int p2), .val (.int p3), .val (.int p4), .val (.int (1 : Int32)), .val (.int z1_s0), .val (.ref b2), .val (.ref c8_mw)] [(.int p4), (.int p3), (.int p2), (.int p1), (.ref c8_mw), (.ref b2), (.int z1_s0), (.int (1 : Int32)), (.int (2 : Int32))])) rfl (by rw [hml]; rfl) (argsL := [(.int (2 : Int32)), (.int (1 : Int32)), (.int z1_s0), (.ref b2), (.ref c8_mw), (.int p1), (.int p2), (.int p3), (.int p4)]) (rest := []) (lenOf pd_3 rfl) rfl (by show 2 * 0 + _ ≤ _; exact Nat.le_of_eq rfl) (hb hby at_194) (fun _ _ => ⟨rfl, e13, (by decide : 2 + 0 ≤ _), (by decide : 5 + 0 ≤ _)⟩)
    dsimp only [Pt.U, Pt.locs, Pt.cells, Pt.slots] at X15 l15 y15 z15 st15 hQ15
    subst l15 y15 z15
    obtain ⟨rfl, N15q, e15⟩ := hQ15
    have N15 := Fr.app N13 N15q
    refine Goes.go st15 ?_
    show Goes p e below s _ _ _ (T15.setTop (mkF m 197 #[.val (.int p0), .val (.int p1), .val (.int p2), .val (.int p3), .val (.int p4), .val (.int (1 : Int32)), .val (.int z1_s0), .val (.ref b2), .val (.ref c8_mw)] [(.int (f4 (2 : Int32) (1 : Int32) z1_s0 b2 c8_mw p1 p2 p3 p4 1 (own_upd (fun _ => 0) 0 (nar .byte (f1 (0 : Int32) (1 : Int32) z1_s0 p1 p2 p3 p4))) 1 (own_upd (own_upd (fun _ => 0) 0 (nar .byte (f1 (0 : Int32) (1 : Int32) z1_s0 p1 p2 p3 p4))) (1 - 1) (nar .byte ((if ((own_upd (fun _ => 0) 0 (nar .byte (f1 (0 : Int32) (1 : Int32) z1_s0 p1 p2 p3 p4))) (1 - 1)) = (0 : Int32) then (255 : Int32) else (0 : Int32)).toInt8.toInt32))) 2))]))
    have hc197_16 : ¬ ((f4 (2 : Int32) (1 : Int32) z1_s0 b2 c8_mw p1 p2 p3 p4 1 (own_upd (fun _ => 0) 0 (nar .byte (f1 (0 : Int32) (1 : Int32) z1_s0 p1 p2 p3 p4))) 1 (own_upd (own_upd (fun _ => 0) 0 (nar .byte (f1 (0 : Int32) (1 : Int32) z1_s0 p1 p2 p3 p4))) (1 - 1) (nar .byte ((if ((own_upd (fun _ => 0) 0 (nar .byte (f1 (0 : Int32) (1 : Int32) z1_s0 p1 p2 p3 p4))) (1 - 1)) = (0 : Int32) then (255 : Int32) else (0 : Int32)).toInt8.toInt32))) 2) = (0 : Int32)) := own_far (by decide)
    refine Goes.go (fun _ k => XS.ifNo X15.here hx rfl (hb hby at_197) rfl ((if0 _ _).trans (feq hc197_16).1) k) ?_
    show Goes p e below s _ _ _ (T15.setTop (mkF m 200 #[.val (.int p0), .val (.int p1), .val (.int p2), .val (.int p3), .val (.int p4), .val (.int (1 : Int32)), .val (.int z1_s0), .val (.ref b2), .val (.ref c8_mw)] []))
    refine Goes.go (fun _ k => XS.iconst X15.here hx rfl (hb hby at_200) k) ?_
    show Goes p e below s _ _ _ (T15.setTop (mkF m 201 #[.val (.int p0), .val (.int p1), .val (.int p2), .val (.int p3), .val (.int p4), .val (.int (1 : Int32)), .val (.int z1_s0), .val (.ref b2), .val (.ref c8_mw)] [(.int (3 : Int32))]))
    refine Goes.go (fun _ k => XS.iload X15.here hx rfl (hb hby at_201) rfl  k) ?_
    show Goes p e below s _ _ _ (T15.setTop (mkF m 203 #[.val (.int p0), .val (.int p1), .val (.int p2), .val (.int p3), .val (.int p4), .val (.int (1 : Int32)), .val (.int z1_s0), .val (.ref b2), .val (.ref c8_mw)] [(.int (1 : Int32)), (.int (3 : Int32))]))
    refine Goes.go (fun _ k => XS.iload X15.here hx rfl (hb hby at_203) rfl  k) ?_
    show Goes p e below s _ _ _ (T15.setTop (mkF m 205 #[.val (.int p0), .val (.int p1), .val (.int p2), .val (.int p3), .val (.int p4), .val (.int (1 : Int32)), .val (.int z1_s0), .val (.ref b2), .val (.ref c8_mw)] [(.int z1_s0), (.int (1 : Int32)), (.int (3 : Int32))]))
    refine Goes.go (fun _ k => XS.aload X15.here hx rfl (hb hby at_205) rfl rfl  k) ?_
    show Goes p e below s _ _ _ (T15.setTop (mkF m 207 #[.val (.int p0), .val (.int p1), .val (.int p2), .val (.int p3), .val (.int p4), .val (.int (1 : Int32)), .val (.int z1_s0), .val (.ref b2), .val (.ref c8_mw)] [(.ref b2), (.int z1_s0), (.int (1 : Int32)), (.int (3 : Int32))]))
    refine Goes.go (fun _ k => XS.aload X15.here hx rfl (hb hby at_207) rfl rfl  k) ?_
    show Goes p e below s _ _ _ (T15.setTop (mkF m 209 #[.val (.int p0), .val (.int p1), .val (.int p2), .val (.int p3), .val (.int p4), .val (.int (1 : Int32)), .val (.int z1_s0), .val (.ref b2), .val (.ref c8_mw)] [(.ref c8_mw), (.ref b2), (.int z1_s0), (.int (1 : Int32)), (.int (3 : Int32))]))
    refine Goes.go (fun _ k => XS.iloadN X15.here hx rfl (hb hby at_209) rfl  k) ?_
    show Goes p e below s _ _ _ (T15.setTop (mkF m 210 #[.val (.int p0), .val (.int p1), .val (.int p2), .val (.int p3), .val (.int p4), .val (.int (1 : Int32)), .val (.int z1_s0), .val (.ref b2), .val (.ref c8_mw)] [(.int p1), (.ref c8_mw), (.ref b2), (.int z1_s0), (.int (1 : Int32)), (.int (3 : Int32))]))
    refine Goes.go (fun _ k => XS.iloadN X15.here hx rfl (hb hby at_210) rfl  k) ?_
    show Goes p e below s _ _ _ (T15.setTop (mkF m 211 #[.val (.int p0), .val (.int p1), .val (.int p2), .val (.int p3), .val (.int p4), .val (.int (1 : Int32)), .val (.int z1_s0), .val (.ref b2), .val (.ref c8_mw)] [(.int p2), (.int p1), (.ref c8_mw), (.ref b2), (.int z1_s0), (.int (1 : Int32)), (.int (3 : Int32))]))
    refine Goes.go (fun _ k => XS.iloadN X15.here hx rfl (hb hby at_211) rfl  k) ?_
    show Goes p e below s _ _ _ (T15.setTop (mkF m 212 #[.val (.int p0), .val (.int p1), .val (.int p2), .val (.int p3), .val (.int p4), .val (.int (1 : Int32)), .val (.int z1_s0), .val (.ref b2), .val (.ref c8_mw)] [(.int p3), (.int p2), (.int p1), (.ref c8_mw), (.ref b2), (.int z1_s0), (.int (1 : Int32)), (.int (3 : Int32))]))
    refine Goes.go (fun _ k => XS.iload X15.here hx rfl (hb hby at_212) rfl  k) ?_
    show Goes p e below s _ _ _ (T15.setTop (mkF m 214 #[.val (.int p0), .val (.int p1), .val (.int p2), .val (.int p3), .val (.int p4), .val (.int (1 : Int32)), .val (.int z1_s0), .val (.ref b2), .val (.ref c8_mw)] [(.int p4), (.int p3), (.int p2), (.int p1), (.ref c8_mw), (.ref b2), (.int z1_s0), (.int (1 : Int32)), (.int (3 : Int32))]))
    obtain ⟨_, _, ⟨T17, L17, k17, n17⟩, -, X17, ⟨Lc17, hQ17, l17, y17, z17⟩, st17⟩ := Jvm.LawKit.callS X15 hx (y := (⟨"org/cardprobe/CheckCharacterWithWrongCheckPinLaw", "slotOk", "(IIZ[B[BIIII)Z"⟩ : MethodName)) hown (mvT hZ (hw _ (List.mem_of_getElem? (i := 21) rfl))) (mvT hZ (hw _ (List.mem_of_getElem? (i := 22) rfl))) (mvT hZ (hw _ (List.mem_of_getElem? (i := 3) rfl))) (mvT hZ (hw _ (List.mem_of_getElem? (i := 23) rfl))) (by decide) (backOf (W := 0) (rm4 l Z a0 hw [] (3 : Int32) (1 : Int32) z1_s0 b2 c8_mw p1 p2 p3 p4 1 (own_upd (fun _ => 0) 0 (nar .byte (f1 (0 : Int32) (1 : Int32) z1_s0 p1 p2 p3 p4))) 1 (own_upd (own_upd (fun _ => 0) 0 (nar .byte (f1 (0 : Int32) (1 : Int32) z1_s0 p1 p2 p3 p4))) (1 - 1) (nar .byte ((if ((own_upd (fun _ => 0) 0 (nar .byte (f1 (0 : Int32) (1 : Int32) z1_s0 p1 p2 p3 p4))) (1 - 1)) = (0 : Int32) then (255 : Int32) else (0 : Int32)).toInt8.toInt32))) 3 h8 n0 Z8 (A4.keep Kq8 nin0) G8_0 rfl rfl rfl (by decide)) hZ (hw _ (List.mem_of_getElem? (i := 23) rfl)) (hw _ (List.mem_of_getElem? (i := 3) rfl)) (by decide) (by decide)) (g := (mkF m 214 #[.val (.int p0), .val (.int p1), .val (.int p2), .val (.int p3), .val (.int p4), .val (.int (1 : Int32)), .val (.int z1_s0), .val (.ref b2), .val (.ref c8_mw)] [(.int p4), (.int p3), (.int p2), (.int p1), (.ref c8_mw), (.ref b2), (.int z1_s0), (.int (1 : Int32)), (.int (3 : Int32))])) rfl (by rw [hml]; rfl) (argsL := [(.int (3 : Int32)), (.int (1 : Int32)), (.int z1_s0), (.ref b2), (.ref c8_mw), (.int p1), (.int p2), (.int p3), (.int p4)]) (rest := []) (lenOf pd_3 rfl) rfl (by show 2 * 0 + _ ≤ _; exact Nat.le_of_eq rfl) (hb hby at_214) (fun _ _ => ⟨rfl, e15, (by decide : 2 + 0 ≤ _), (by decide : 5 + 0 ≤ _)⟩)
    dsimp only [Pt.U, Pt.locs, Pt.cells, Pt.slots] at X17 l17 y17 z17 st17 hQ17
    subst l17 y17 z17
    obtain ⟨rfl, N17q, e17⟩ := hQ17
    have N17 := Fr.app N15 N17q
    refine Goes.go st17 ?_
    show Goes p e below s _ _ _ (T17.setTop (mkF m 217 #[.val (.int p0), .val (.int p1), .val (.int p2), .val (.int p3), .val (.int p4), .val (.int (1 : Int32)), .val (.int z1_s0), .val (.ref b2), .val (.ref c8_mw)] [(.int (f4 (3 : Int32) (1 : Int32) z1_s0 b2 c8_mw p1 p2 p3 p4 1 (own_upd (fun _ => 0) 0 (nar .byte (f1 (0 : Int32) (1 : Int32) z1_s0 p1 p2 p3 p4))) 1 (own_upd (own_upd (fun _ => 0) 0 (nar .byte (f1 (0 : Int32) (1 : Int32) z1_s0 p1 p2 p3 p4))) (1 - 1) (nar .byte ((if ((own_upd (fun _ => 0) 0 (nar .byte (f1 (0 : Int32) (1 : Int32) z1_s0 p1 p2 p3 p4))) (1 - 1)) = (0 : Int32) then (255 : Int32) else (0 : Int32)).toInt8.toInt32))) 3))]))
    have hc217_18 : ¬ ((f4 (3 : Int32) (1 : Int32) z1_s0 b2 c8_mw p1 p2 p3 p4 1 (own_upd (fun _ => 0) 0 (nar .byte (f1 (0 : Int32) (1 : Int32) z1_s0 p1 p2 p3 p4))) 1 (own_upd (own_upd (fun _ => 0) 0 (nar .byte (f1 (0 : Int32) (1 : Int32) z1_s0 p1 p2 p3 p4))) (1 - 1) (nar .byte ((if ((own_upd (fun _ => 0) 0 (nar .byte (f1 (0 : Int32) (1 : Int32) z1_s0 p1 p2 p3 p4))) (1 - 1)) = (0 : Int32) then (255 : Int32) else (0 : Int32)).toInt8.toInt32))) 3) = (0 : Int32)) := own_far (by decide)
    refine Goes.go (fun _ k => XS.ifNo X17.here hx rfl (hb hby at_217) rfl ((if0 _ _).trans (feq hc217_18).1) k) ?_
    show Goes p e below s _ _ _ (T17.setTop (mkF m 220 #[.val (.int p0), .val (.int p1), .val (.int p2), .val (.int p3), .val (.int p4), .val (.int (1 : Int32)), .val (.int z1_s0), .val (.ref b2), .val (.ref c8_mw)] []))
    refine Goes.go (fun _ k => XS.iconst X17.here hx rfl (hb hby at_220) k) ?_
    show Goes p e below s _ _ _ (T17.setTop (mkF m 221 #[.val (.int p0), .val (.int p1), .val (.int p2), .val (.int p3), .val (.int p4), .val (.int (1 : Int32)), .val (.int z1_s0), .val (.ref b2), .val (.ref c8_mw)] [(.int (1 : Int32))]))
    refine Goes.go (fun _ k => XS.goto X17.here hx rfl (pc0 := 221) (pc' := 225) rfl (hb hby at_221) (by decide) (by decide) k) ?_
    show Goes p e below s _ _ _ (T17.setTop (mkF m 225 #[.val (.int p0), .val (.int p1), .val (.int p2), .val (.int p3), .val (.int p4), .val (.int (1 : Int32)), .val (.int z1_s0), .val (.ref b2), .val (.ref c8_mw)] [(.int (1 : Int32))]))
    refine Goes.retN .boolean X17 hx hlk Bd.returns (by simp) (hb hby at_225) ?_ (by decide) (by decide)
    exact ⟨rfl, N17⟩
  · rw [show ((p0 &&& (3 : Int32)) + (1 : Int32)) = (2 : Int32) from by rw [en]; rfl]
    show Goes p e below s _ _ _ (s₁.setTop (mkF m 22 #[.val (.int p0), .val (.int p1), .val (.int p2), .val (.int p3), .val (.int p4), .val (.int (2 : Int32)), .val (.int z1_s0), .unset, .unset] []))
    refine Goes.go (fun _ k => XS.iload X0.here hx rfl (hb hby at_22) rfl  k) ?_
    show Goes p e below s _ _ _ (s₁.setTop (mkF m 24 #[.val (.int p0), .val (.int p1), .val (.int p2), .val (.int p3), .val (.int p4), .val (.int (2 : Int32)), .val (.int z1_s0), .unset, .unset] [(.int (2 : Int32))]))
    obtain ⟨T19, h19, X19, e19, E19, A19, EA19, st19⟩ := own_newA X0 hx hZ (hw _ (List.mem_of_getElem? (i := 0) rfl)) e0 (g := (mkF m 24 #[.val (.int p0), .val (.int p1), .val (.int p2), .val (.int p3), .val (.int p4), .val (.int (2 : Int32)), .val (.int z1_s0), .unset, .unset] [(.int (2 : Int32))])) rfl (hb hby at_24) rfl (n := 2) rfl (cap := 2) (Nat.le_refl _) (by decide) (by decide) (by decide) (by decide) (by decide) (by decide : _ = "[B")
    obtain ⟨b19, g19⟩ : ∃ z, z = h0.size := ⟨_, rfl⟩
    rw [← g19] at A19 EA19 st19
    have gb19 : n0 ≤ b19 := Nat.le_trans Z0 (Nat.le_of_eq g19.symm)
    have sb19 : h0.size ≤ b19 := Nat.le_trans K0.1 (Nat.le_of_eq g19.symm)
    have Z19 := Nat.le_trans Z0 E19.1
    have K19 := Keep.ext K0 E19
    refine Goes.go st19 ?_
    show Goes p e below s _ _ _ (T19.setTop (mkF m 26 #[.val (.int p0), .val (.int p1), .val (.int p2), .val (.int p3), .val (.int p4), .val (.int (2 : Int32)), .val (.int z1_s0), .unset, .unset] [(.ref b19)]))
    refine Goes.go (fun _ k => XS.astore X19.here hx rfl (hb hby at_26) rfl rfl (l' := #[.val (.int p0), .val (.int p1), .val (.int p2), .val (.int p3), .val (.int p4), .val (.int (2 : Int32)), .val (.int z1_s0), .val (.ref b19), .unset]) rfl k) ?_
    show Goes p e below s _ _ _ (T19.setTop (mkF m 28 #[.val (.int p0), .val (.int p1), .val (.int p2), .val (.int p3), .val (.int p4), .val (.int (2 : Int32)), .val (.int z1_s0), .val (.ref b19), .unset] []))
    refine Goes.go (fun _ k => XS.aload X19.here hx rfl (hb hby at_28) rfl rfl  k) ?_
    show Goes p e below s _ _ _ (T19.setTop (mkF m 30 #[.val (.int p0), .val (.int p1), .val (.int p2), .val (.int p3), .val (.int p4), .val (.int (2 : Int32)), .val (.int z1_s0), .val (.ref b19), .unset] [(.ref b19)]))
    refine Goes.go (fun _ k => XS.iconst X19.here hx rfl (hb hby at_30) k) ?_
    show Goes p e below s _ _ _ (T19.setTop (mkF m 31 #[.val (.int p0), .val (.int p1), .val (.int p2), .val (.int p3), .val (.int p4), .val (.int (2 : Int32)), .val (.int z1_s0), .val (.ref b19), .unset] [(.int (0 : Int32)), (.ref b19)]))
    refine Goes.go (fun _ k => XS.iconst X19.here hx rfl (hb hby at_31) k) ?_
    show Goes p e below s _ _ _ (T19.setTop (mkF m 32 #[.val (.int p0), .val (.int p1), .val (.int p2), .val (.int p3), .val (.int p4), .val (.int (2 : Int32)), .val (.int z1_s0), .val (.ref b19), .unset] [(.int (0 : Int32)), (.int (0 : Int32)), (.ref b19)]))
    refine Goes.go (fun _ k => XS.iload X19.here hx rfl (hb hby at_32) rfl  k) ?_
    show Goes p e below s _ _ _ (T19.setTop (mkF m 34 #[.val (.int p0), .val (.int p1), .val (.int p2), .val (.int p3), .val (.int p4), .val (.int (2 : Int32)), .val (.int z1_s0), .val (.ref b19), .unset] [(.int (2 : Int32)), (.int (0 : Int32)), (.int (0 : Int32)), (.ref b19)]))
    refine Goes.go (fun _ k => XS.iload X19.here hx rfl (hb hby at_34) rfl  k) ?_
    show Goes p e below s _ _ _ (T19.setTop (mkF m 36 #[.val (.int p0), .val (.int p1), .val (.int p2), .val (.int p3), .val (.int p4), .val (.int (2 : Int32)), .val (.int z1_s0), .val (.ref b19), .unset] [(.int z1_s0), (.int (2 : Int32)), (.int (0 : Int32)), (.int (0 : Int32)), (.ref b19)]))
    refine Goes.go (fun _ k => XS.iloadN X19.here hx rfl (hb hby at_36) rfl  k) ?_
    show Goes p e below s _ _ _ (T19.setTop (mkF m 37 #[.val (.int p0), .val (.int p1), .val (.int p2), .val (.int p3), .val (.int p4), .val (.int (2 : Int32)), .val (.int z1_s0), .val (.ref b19), .unset] [(.int p1), (.int z1_s0), (.int (2 : Int32)), (.int (0 : Int32)), (.int (0 : Int32)), (.ref b19)]))
    refine Goes.go (fun _ k => XS.iloadN X19.here hx rfl (hb hby at_37) rfl  k) ?_
    show Goes p e below s _ _ _ (T19.setTop (mkF m 38 #[.val (.int p0), .val (.int p1), .val (.int p2), .val (.int p3), .val (.int p4), .val (.int (2 : Int32)), .val (.int z1_s0), .val (.ref b19), .unset] [(.int p2), (.int p1), (.int z1_s0), (.int (2 : Int32)), (.int (0 : Int32)), (.int (0 : Int32)), (.ref b19)]))
    refine Goes.go (fun _ k => XS.iloadN X19.here hx rfl (hb hby at_38) rfl  k) ?_
    show Goes p e below s _ _ _ (T19.setTop (mkF m 39 #[.val (.int p0), .val (.int p1), .val (.int p2), .val (.int p3), .val (.int p4), .val (.int (2 : Int32)), .val (.int z1_s0), .val (.ref b19), .unset] [(.int p3), (.int p2), (.int p1), (.int z1_s0), (.int (2 : Int32)), (.int (0 : Int32)), (.int (0 : Int32)), (.ref b19)]))
    refine Goes.go (fun _ k => XS.iload X19.here hx rfl (hb hby at_39) rfl  k) ?_
    show Goes p e below s _ _ _ (T19.setTop (mkF m 41 #[.val (.int p0), .val (.int p1), .val (.int p2), .val (.int p3), .val (.int p4), .val (.int (2 : Int32)), .val (.int z1_s0), .val (.ref b19), .unset] [(.int p4), (.int p3), (.int p2), (.int p1), (.int z1_s0), (.int (2 : Int32)), (.int (0 : Int32)), (.int (0 : Int32)), (.ref b19)]))
    obtain ⟨_, _, ⟨T20, L20, k20, n20⟩, -, X20, ⟨Lc20, hQ20, l20, y20, z20⟩, st20⟩ := Jvm.LawKit.callS X19 hx (y := (⟨"org/cardprobe/CheckCharacterWithWrongCheckPinLaw", "orig", "(IIZIIII)B"⟩ : MethodName)) hown (mvT hZ (hw _ (List.mem_of_getElem? (i := 1) rfl))) (mvT hZ (hw _ (List.mem_of_getElem? (i := 2) rfl))) (mvT hZ (hw _ (List.mem_of_getElem? (i := 3) rfl))) (mvT hZ (hw _ (List.mem_of_getElem? (i := 4) rfl))) (by decide) (backOf (W := 2) (rm1 l Z a0 hw [] (0 : Int32) (2 : Int32) z1_s0 p1 p2 p3 p4 h19 n0 Z19 ) hZ (hw _ (List.mem_of_getElem? (i := 4) rfl)) (hw _ (List.mem_of_getElem? (i := 3) rfl)) (by decide) (by decide)) (g := (mkF m 41 #[.val (.int p0), .val (.int p1), .val (.int p2), .val (.int p3), .val (.int p4), .val (.int (2 : Int32)), .val (.int z1_s0), .val (.ref b19), .unset] [(.int p4), (.int p3), (.int p2), (.int p1), (.int z1_s0), (.int (2 : Int32)), (.int (0 : Int32)), (.int (0 : Int32)), (.ref b19)])) rfl (by rw [hml]; rfl) (argsL := [(.int (0 : Int32)), (.int (2 : Int32)), (.int z1_s0), (.int p1), (.int p2), (.int p3), (.int p4)]) (rest := [(.int (0 : Int32)), (.ref b19)]) (lenOf pd_1 rfl) rfl (by show 2 * 0 + _ ≤ _; exact Nat.le_of_eq rfl) (hb hby at_41) (fun _ _ => ⟨rfl, e19, (by decide : 1 + 0 ≤ _), (by decide : 2 + 0 ≤ _)⟩)
    dsimp only [Pt.U, Pt.locs, Pt.cells, Pt.slots] at X20 l20 y20 z20 st20 hQ20
    subst l20 y20 z20
    obtain ⟨rfl, N20q, e20⟩ := hQ20
    have N20 := Fr.app N0 N20q
    refine Goes.go st20 ?_
    show Goes p e below s _ _ _ (T20.setTop (mkF m 44 #[.val (.int p0), .val (.int p1), .val (.int p2), .val (.int p3), .val (.int p4), .val (.int (2 : Int32)), .val (.int z1_s0), .val (.ref b19), .unset] [(.int (f1 (0 : Int32) (2 : Int32) z1_s0 p1 p2 p3 p4)), (.int (0 : Int32)), (.ref b19)]))
    obtain ⟨T21, h21, X21, e21, W21, A21, st21⟩ := own_stB X20 hx hZ e20 A19 (i := 0) rfl (by decide) (g := (mkF m 44 #[.val (.int p0), .val (.int p1), .val (.int p2), .val (.int p3), .val (.int p4), .val (.int (2 : Int32)), .val (.int z1_s0), .val (.ref b19), .unset] [(.int (f1 (0 : Int32) (2 : Int32) z1_s0 p1 p2 p3 p4)), (.int (0 : Int32)), (.ref b19)])) rfl rfl (hb hby at_44)
    have N21 := Fr.snoc X21 N20 gb19
    have Z21 := Nat.le_trans Z19 (Keep.of_wr W21).1
    have K21 := Keep.wr K19 W21 (Or.inr sb19)
    refine Goes.go st21 ?_
    show Goes p e below s _ _ _ (T21.setTop (mkF m 45 #[.val (.int p0), .val (.int p1), .val (.int p2), .val (.int p3), .val (.int p4), .val (.int (2 : Int32)), .val (.int z1_s0), .val (.ref b19), .unset] []))
    refine Goes.go (fun _ k => XS.iload X21.here hx rfl (hb hby at_45) rfl  k) ?_
    show Goes p e below s _ _ _ (T21.setTop (mkF m 47 #[.val (.int p0), .val (.int p1), .val (.int p2), .val (.int p3), .val (.int p4), .val (.int (2 : Int32)), .val (.int z1_s0), .val (.ref b19), .unset] [(.int (2 : Int32))]))
    refine Goes.go (fun _ k => XS.iconst X21.here hx rfl (hb hby at_47) k) ?_
    show Goes p e below s _ _ _ (T21.setTop (mkF m 48 #[.val (.int p0), .val (.int p1), .val (.int p2), .val (.int p3), .val (.int p4), .val (.int (2 : Int32)), .val (.int z1_s0), .val (.ref b19), .unset] [(.int (1 : Int32)), (.int (2 : Int32))]))
    have hc48_22 : (1 : Int32) < (2 : Int32) := (by decide)
    refine Goes.go (fun _ k => XS.icmpNo X21.here hx rfl (hb hby at_48) rfl (tlt hc48_22).2.2.2 k) ?_
    show Goes p e below s _ _ _ (T21.setTop (mkF m 51 #[.val (.int p0), .val (.int p1), .val (.int p2), .val (.int p3), .val (.int p4), .val (.int (2 : Int32)), .val (.int z1_s0), .val (.ref b19), .unset] []))
    refine Goes.go (fun _ k => XS.aload X21.here hx rfl (hb hby at_51) rfl rfl  k) ?_
    show Goes p e below s _ _ _ (T21.setTop (mkF m 53 #[.val (.int p0), .val (.int p1), .val (.int p2), .val (.int p3), .val (.int p4), .val (.int (2 : Int32)), .val (.int z1_s0), .val (.ref b19), .unset] [(.ref b19)]))
    refine Goes.go (fun _ k => XS.iconst X21.here hx rfl (hb hby at_53) k) ?_
    show Goes p e below s _ _ _ (T21.setTop (mkF m 54 #[.val (.int p0), .val (.int p1), .val (.int p2), .val (.int p3), .val (.int p4), .val (.int (2 : Int32)), .val (.int z1_s0), .val (.ref b19), .unset] [(.int (1 : Int32)), (.ref b19)]))
    refine Goes.go (fun _ k => XS.iconst X21.here hx rfl (hb hby at_54) k) ?_
    show Goes p e below s _ _ _ (T21.setTop (mkF m 55 #[.val (.int p0), .val (.int p1), .val (.int p2), .val (.int p3), .val (.int p4), .val (.int (2 : Int32)), .val (.int z1_s0), .val (.ref b19), .unset] [(.int (1 : Int32)), (.int (1 : Int32)), (.ref b19)]))
    refine Goes.go (fun _ k => XS.iload X21.here hx rfl (hb hby at_55) rfl  k) ?_
    show Goes p e below s _ _ _ (T21.setTop (mkF m 57 #[.val (.int p0), .val (.int p1), .val (.int p2), .val (.int p3), .val (.int p4), .val (.int (2 : Int32)), .val (.int z1_s0), .val (.ref b19), .unset] [(.int (2 : Int32)), (.int (1 : Int32)), (.int (1 : Int32)), (.ref b19)]))
    refine Goes.go (fun _ k => XS.iload X21.here hx rfl (hb hby at_57) rfl  k) ?_
    show Goes p e below s _ _ _ (T21.setTop (mkF m 59 #[.val (.int p0), .val (.int p1), .val (.int p2), .val (.int p3), .val (.int p4), .val (.int (2 : Int32)), .val (.int z1_s0), .val (.ref b19), .unset] [(.int z1_s0), (.int (2 : Int32)), (.int (1 : Int32)), (.int (1 : Int32)), (.ref b19)]))
    refine Goes.go (fun _ k => XS.iloadN X21.here hx rfl (hb hby at_59) rfl  k) ?_
    show Goes p e below s _ _ _ (T21.setTop (mkF m 60 #[.val (.int p0), .val (.int p1), .val (.int p2), .val (.int p3), .val (.int p4), .val (.int (2 : Int32)), .val (.int z1_s0), .val (.ref b19), .unset] [(.int p1), (.int z1_s0), (.int (2 : Int32)), (.int (1 : Int32)), (.int (1 : Int32)), (.ref b19)]))
    refine Goes.go (fun _ k => XS.iloadN X21.here hx rfl (hb hby at_60) rfl  k) ?_
    show Goes p e below s _ _ _ (T21.setTop (mkF m 61 #[.val (.int p0), .val (.int p1), .val (.int p2), .val (.int p3), .val (.int p4), .val (.int (2 : Int32)), .val (.int z1_s0), .val (.ref b19), .unset] [(.int p2), (.int p1), (.int z1_s0), (.int (2 : Int32)), (.int (1 : Int32)), (.int (1 : Int32)), (.ref b19)]))
    refine Goes.go (fun _ k => XS.iloadN X21.here hx rfl (hb hby at_61) rfl  k) ?_
    show Goes p e below s _ _ _ (T21.setTop (mkF m 62 #[.val (.int p0), .val (.int p1), .val (.int p2), .val (.int p3), .val (.int p4), .val (.int (2 : Int32)), .val (.int z1_s0), .val (.ref b19), .unset] [(.int p3), (.int p2), (.int p1), (.int z1_s0), (.int (2 : Int32)), (.int (1 : Int32)), (.int (1 : Int32)), (.ref b19)]))
    refine Goes.go (fun _ k => XS.iload X21.here hx rfl (hb hby at_62) rfl  k) ?_
    show Goes p e below s _ _ _ (T21.setTop (mkF m 64 #[.val (.int p0), .val (.int p1), .val (.int p2), .val (.int p3), .val (.int p4), .val (.int (2 : Int32)), .val (.int z1_s0), .val (.ref b19), .unset] [(.int p4), (.int p3), (.int p2), (.int p1), (.int z1_s0), (.int (2 : Int32)), (.int (1 : Int32)), (.int (1 : Int32)), (.ref b19)]))
    obtain ⟨_, _, ⟨T23, L23, k23, n23⟩, -, X23, ⟨Lc23, hQ23, l23, y23, z23⟩, st23⟩ := Jvm.LawKit.callS X21 hx (y := (⟨"org/cardprobe/CheckCharacterWithWrongCheckPinLaw", "orig", "(IIZIIII)B"⟩ : MethodName)) hown (mvT hZ (hw _ (List.mem_of_getElem? (i := 1) rfl))) (mvT hZ (hw _ (List.mem_of_getElem? (i := 2) rfl))) (mvT hZ (hw _ (List.mem_of_getElem? (i := 3) rfl))) (mvT hZ (hw _ (List.mem_of_getElem? (i := 4) rfl))) (by decide) (backOf (W := 2) (rm1 l Z a0 hw [] (1 : Int32) (2 : Int32) z1_s0 p1 p2 p3 p4 h21 n0 Z21 ) hZ (hw _ (List.mem_of_getElem? (i := 4) rfl)) (hw _ (List.mem_of_getElem? (i := 3) rfl)) (by decide) (by decide)) (g := (mkF m 64 #[.val (.int p0), .val (.int p1), .val (.int p2), .val (.int p3), .val (.int p4), .val (.int (2 : Int32)), .val (.int z1_s0), .val (.ref b19), .unset] [(.int p4), (.int p3), (.int p2), (.int p1), (.int z1_s0), (.int (2 : Int32)), (.int (1 : Int32)), (.int (1 : Int32)), (.ref b19)])) rfl (by rw [hml]; rfl) (argsL := [(.int (1 : Int32)), (.int (2 : Int32)), (.int z1_s0), (.int p1), (.int p2), (.int p3), (.int p4)]) (rest := [(.int (1 : Int32)), (.ref b19)]) (lenOf pd_1 rfl) rfl (by show 2 * 0 + _ ≤ _; exact Nat.le_of_eq rfl) (hb hby at_64) (fun _ _ => ⟨rfl, e21, (by decide : 1 + 0 ≤ _), (by decide : 2 + 0 ≤ _)⟩)
    dsimp only [Pt.U, Pt.locs, Pt.cells, Pt.slots] at X23 l23 y23 z23 st23 hQ23
    subst l23 y23 z23
    obtain ⟨rfl, N23q, e23⟩ := hQ23
    have N23 := Fr.app N21 N23q
    refine Goes.go st23 ?_
    show Goes p e below s _ _ _ (T23.setTop (mkF m 67 #[.val (.int p0), .val (.int p1), .val (.int p2), .val (.int p3), .val (.int p4), .val (.int (2 : Int32)), .val (.int z1_s0), .val (.ref b19), .unset] [(.int (f1 (1 : Int32) (2 : Int32) z1_s0 p1 p2 p3 p4)), (.int (1 : Int32)), (.ref b19)]))
    obtain ⟨T24, h24, X24, e24, W24, A24, st24⟩ := own_stB X23 hx hZ e23 A21 (i := 1) rfl (by decide) (g := (mkF m 67 #[.val (.int p0), .val (.int p1), .val (.int p2), .val (.int p3), .val (.int p4), .val (.int (2 : Int32)), .val (.int z1_s0), .val (.ref b19), .unset] [(.int (f1 (1 : Int32) (2 : Int32) z1_s0 p1 p2 p3 p4)), (.int (1 : Int32)), (.ref b19)])) rfl rfl (hb hby at_67)
    have N24 := Fr.snoc X24 N23 gb19
    have Z24 := Nat.le_trans Z21 (Keep.of_wr W24).1
    have K24 := Keep.wr K21 W24 (Or.inr sb19)
    refine Goes.go st24 ?_
    show Goes p e below s _ _ _ (T24.setTop (mkF m 68 #[.val (.int p0), .val (.int p1), .val (.int p2), .val (.int p3), .val (.int p4), .val (.int (2 : Int32)), .val (.int z1_s0), .val (.ref b19), .unset] []))
    refine Goes.go (fun _ k => XS.iload X24.here hx rfl (hb hby at_68) rfl  k) ?_
    show Goes p e below s _ _ _ (T24.setTop (mkF m 70 #[.val (.int p0), .val (.int p1), .val (.int p2), .val (.int p3), .val (.int p4), .val (.int (2 : Int32)), .val (.int z1_s0), .val (.ref b19), .unset] [(.int (2 : Int32))]))
    refine Goes.go (fun _ k => XS.iconst X24.here hx rfl (hb hby at_70) k) ?_
    show Goes p e below s _ _ _ (T24.setTop (mkF m 71 #[.val (.int p0), .val (.int p1), .val (.int p2), .val (.int p3), .val (.int p4), .val (.int (2 : Int32)), .val (.int z1_s0), .val (.ref b19), .unset] [(.int (2 : Int32)), (.int (2 : Int32))]))
    have hc71_25 : ¬ ((2 : Int32) < (2 : Int32)) := (by decide)
    refine Goes.go (fun _ k => XS.icmpYes X24.here hx rfl (pc0 := 71) (pc' := 91) rfl (hb hby at_71) rfl (flt hc71_25).2.2.2 (by decide) (by decide) k) ?_
    show Goes p e below s _ _ _ (T24.setTop (mkF m 91 #[.val (.int p0), .val (.int p1), .val (.int p2), .val (.int p3), .val (.int p4), .val (.int (2 : Int32)), .val (.int z1_s0), .val (.ref b19), .unset] []))
    refine Goes.go (fun _ k => XS.iload X24.here hx rfl (hb hby at_91) rfl  k) ?_
    show Goes p e below s _ _ _ (T24.setTop (mkF m 93 #[.val (.int p0), .val (.int p1), .val (.int p2), .val (.int p3), .val (.int p4), .val (.int (2 : Int32)), .val (.int z1_s0), .val (.ref b19), .unset] [(.int (2 : Int32))]))
    refine Goes.go (fun _ k => XS.iconst X24.here hx rfl (hb hby at_93) k) ?_
    show Goes p e below s _ _ _ (T24.setTop (mkF m 94 #[.val (.int p0), .val (.int p1), .val (.int p2), .val (.int p3), .val (.int p4), .val (.int (2 : Int32)), .val (.int z1_s0), .val (.ref b19), .unset] [(.int (3 : Int32)), (.int (2 : Int32))]))
    have hc94_26 : ¬ ((3 : Int32) < (2 : Int32)) := (by decide)
    refine Goes.go (fun _ k => XS.icmpYes X24.here hx rfl (pc0 := 94) (pc' := 114) rfl (hb hby at_94) rfl (flt hc94_26).2.2.2 (by decide) (by decide) k) ?_
    show Goes p e below s _ _ _ (T24.setTop (mkF m 114 #[.val (.int p0), .val (.int p1), .val (.int p2), .val (.int p3), .val (.int p4), .val (.int (2 : Int32)), .val (.int z1_s0), .val (.ref b19), .unset] []))
    refine Goes.go (fun _ k => XS.aload X24.here hx rfl (hb hby at_114) rfl rfl  k) ?_
    show Goes p e below s _ _ _ (T24.setTop (mkF m 116 #[.val (.int p0), .val (.int p1), .val (.int p2), .val (.int p3), .val (.int p4), .val (.int (2 : Int32)), .val (.int z1_s0), .val (.ref b19), .unset] [(.ref b19)]))
    obtain ⟨_, _, ⟨T27, L27, k27, n27⟩, -, X27, ⟨Lc27, hQ27, l27, y27, z27⟩, st27⟩ := Jvm.LawKit.callS X24 hx (y := (⟨"org/cardprobe/CheckCharacter", "withWrongCheck", "([B)[B"⟩ : MethodName)) hown (mvT hZ (hw _ (List.mem_of_getElem? (i := 8) rfl))) (mvT hZ (hw _ (List.mem_of_getElem? (i := 9) rfl))) (mvT hZ (hw _ (List.mem_of_getElem? (i := 10) rfl))) (mvT hZ (hw _ (List.mem_of_getElem? (i := 11) rfl))) (by decide) (backOf (W := 0) (rm3 l Z a0 hw [] b19 2 (own_upd (own_upd (fun _ => 0) 0 (nar .byte (f1 (0 : Int32) (2 : Int32) z1_s0 p1 p2 p3 p4))) 1 (nar .byte (f1 (1 : Int32) (2 : Int32) z1_s0 p1 p2 p3 p4))) h24 n0 Z24 A24 ((EA19.wr W21).wr W24) (by decide) (by decide)) hZ (hw _ (List.mem_of_getElem? (i := 11) rfl)) (hw _ (List.mem_of_getElem? (i := 10) rfl)) (by decide) (by decide)) (g := (mkF m 116 #[.val (.int p0), .val (.int p1), .val (.int p2), .val (.int p3), .val (.int p4), .val (.int (2 : Int32)), .val (.int z1_s0), .val (.ref b19), .unset] [(.ref b19)])) rfl (by rw [hml]; rfl) (argsL := [(.ref b19)]) (rest := []) (lenOf pd_2 rfl) rfl (by show 2 * 0 + _ ≤ _; exact Nat.le_of_eq rfl) (hb hby at_116) (fun _ _ => ⟨rfl, e24, (by decide : 1 + 1 ≤ _), (by decide : 2 + 4 ≤ _)⟩)
    dsimp only [Pt.U, Pt.locs, Pt.cells, Pt.slots] at X27 l27 y27 z27 st27 hQ27
    subst l27 y27 z27
    obtain ⟨h27, e27⟩ : ∃ z, T27.heap = z := ⟨_, rfl⟩
    rw [e27] at hQ27
    obtain ⟨c27_mw, sb_c27_mw, rfl, N27q, Kq27, G27_0⟩ := hQ27
    have N27 := Fr.app N24 N27q
    have gb_c27_mw : n0 ≤ c27_mw := Nat.le_trans Z24 sb_c27_mw
    have sh_c27_mw : h0.size ≤ c27_mw := Nat.le_trans K24.1 sb_c27_mw
    have K27 := Keep.trans K24 Kq27 all0
    have Z27 := Nat.le_trans Z24 Kq27.1
    refine Goes.go st27 ?_
    show Goes p e below s _ _ _ (T27.setTop (mkF m 119 #[.val (.int p0), .val (.int p1), .val (.int p2), .val (.int p3), .val (.int p4), .val (.int (2 : Int32)), .val (.int z1_s0), .val (.ref b19), .unset] [(.ref c27_mw)]))
    refine Goes.go (fun _ k => XS.astore X27.here hx rfl (hb hby at_119) rfl rfl (l' := #[.val (.int p0), .val (.int p1), .val (.int p2), .val (.int p3), .val (.int p4), .val (.int (2 : Int32)), .val (.int z1_s0), .val (.ref b19), .val (.ref c27_mw)]) rfl k) ?_
    show Goes p e below s _ _ _ (T27.setTop (mkF m 121 #[.val (.int p0), .val (.int p1), .val (.int p2), .val (.int p3), .val (.int p4), .val (.int (2 : Int32)), .val (.int z1_s0), .val (.ref b19), .val (.ref c27_mw)] []))
    refine Goes.go (fun _ k => XS.aload X27.here hx rfl (hb hby at_121) rfl rfl  k) ?_
    show Goes p e below s _ _ _ (T27.setTop (mkF m 123 #[.val (.int p0), .val (.int p1), .val (.int p2), .val (.int p3), .val (.int p4), .val (.int (2 : Int32)), .val (.int z1_s0), .val (.ref b19), .val (.ref c27_mw)] [(.ref c27_mw)]))
    refine Goes.go (fun _ k => XS.aload X27.here hx rfl (hb hby at_123) rfl rfl  k) ?_
    show Goes p e below s _ _ _ (T27.setTop (mkF m 125 #[.val (.int p0), .val (.int p1), .val (.int p2), .val (.int p3), .val (.int p4), .val (.int (2 : Int32)), .val (.int z1_s0), .val (.ref b19), .val (.ref c27_mw)] [(.ref b19), (.ref c27_mw)]))
    refine Goes.go (fun _ k => Jvm.RoadKit.acmp (g := (mkF m 125 #[.val (.int p0), .val (.int p1), .val (.int p2), .val (.int p3), .val (.int p4), .val (.int (2 : Int32)), .val (.int z1_s0), .val (.ref b19), .val (.ref c27_mw)] [(.ref b19), (.ref c27_mw)])) X27 hx rfl rfl rfl (pc0 := 125) (pc' := 130) (same := false) rfl (hb hby at_125) rfl (decide_eq_false fun q => (Ne.symm (Nat.ne_of_lt (Nat.lt_of_lt_of_le A24.lt sb_c27_mw))) (Value.ref.inj q)) (by decide) (by decide) k) ?_
    show Goes p e below s _ _ _ (T27.setTop (mkF m 130 #[.val (.int p0), .val (.int p1), .val (.int p2), .val (.int p3), .val (.int p4), .val (.int (2 : Int32)), .val (.int z1_s0), .val (.ref b19), .val (.ref c27_mw)] []))
    refine Goes.go (fun _ k => XS.aload X27.here hx rfl (hb hby at_130) rfl rfl  k) ?_
    show Goes p e below s _ _ _ (T27.setTop (mkF m 132 #[.val (.int p0), .val (.int p1), .val (.int p2), .val (.int p3), .val (.int p4), .val (.int (2 : Int32)), .val (.int z1_s0), .val (.ref b19), .val (.ref c27_mw)] [(.ref c27_mw)]))
    refine Goes.go (own_len X27 hx hZ e27 G27_0 (g := (mkF m 132 #[.val (.int p0), .val (.int p1), .val (.int p2), .val (.int p3), .val (.int p4), .val (.int (2 : Int32)), .val (.int z1_s0), .val (.ref b19), .val (.ref c27_mw)] [(.ref c27_mw)])) rfl rfl (hb hby at_132)) ?_
    show Goes p e below s _ _ _ (T27.setTop (mkF m 133 #[.val (.int p0), .val (.int p1), .val (.int p2), .val (.int p3), .val (.int p4), .val (.int (2 : Int32)), .val (.int z1_s0), .val (.ref b19), .val (.ref c27_mw)] [(.int (2 : Int32))]))
    refine Goes.go (fun _ k => XS.iload X27.here hx rfl (hb hby at_133) rfl  k) ?_
    show Goes p e below s _ _ _ (T27.setTop (mkF m 135 #[.val (.int p0), .val (.int p1), .val (.int p2), .val (.int p3), .val (.int p4), .val (.int (2 : Int32)), .val (.int z1_s0), .val (.ref b19), .val (.ref c27_mw)] [(.int (2 : Int32)), (.int (2 : Int32))]))
    have hc135_29 : (2 : Int32) = (2 : Int32) := (by decide)
    refine Goes.go (fun _ k => XS.icmpYes X27.here hx rfl (pc0 := 135) (pc' := 140) rfl (hb hby at_135) rfl (teq hc135_29).1 (by decide) (by decide) k) ?_
    show Goes p e below s _ _ _ (T27.setTop (mkF m 140 #[.val (.int p0), .val (.int p1), .val (.int p2), .val (.int p3), .val (.int p4), .val (.int (2 : Int32)), .val (.int z1_s0), .val (.ref b19), .val (.ref c27_mw)] []))
    refine Goes.go (fun _ k => XS.iconst X27.here hx rfl (hb hby at_140) k) ?_
    show Goes p e below s _ _ _ (T27.setTop (mkF m 141 #[.val (.int p0), .val (.int p1), .val (.int p2), .val (.int p3), .val (.int p4), .val (.int (2 : Int32)), .val (.int z1_s0), .val (.ref b19), .val (.ref c27_mw)] [(.int (0 : Int32))]))
    refine Goes.go (fun _ k => XS.iload X27.here hx rfl (hb hby at_141) rfl  k) ?_
    show Goes p e below s _ _ _ (T27.setTop (mkF m 143 #[.val (.int p0), .val (.int p1), .val (.int p2), .val (.int p3), .val (.int p4), .val (.int (2 : Int32)), .val (.int z1_s0), .val (.ref b19), .val (.ref c27_mw)] [(.int (2 : Int32)), (.int (0 : Int32))]))
    refine Goes.go (fun _ k => XS.iload X27.here hx rfl (hb hby at_143) rfl  k) ?_
    show Goes p e below s _ _ _ (T27.setTop (mkF m 145 #[.val (.int p0), .val (.int p1), .val (.int p2), .val (.int p3), .val (.int p4), .val (.int (2 : Int32)), .val (.int z1_s0), .val (.ref b19), .val (.ref c27_mw)] [(.int z1_s0), (.int (2 : Int32)), (.int (0 : Int32))]))
    refine Goes.go (fun _ k => XS.aload X27.here hx rfl (hb hby at_145) rfl rfl  k) ?_
    show Goes p e below s _ _ _ (T27.setTop (mkF m 147 #[.val (.int p0), .val (.int p1), .val (.int p2), .val (.int p3), .val (.int p4), .val (.int (2 : Int32)), .val (.int z1_s0), .val (.ref b19), .val (.ref c27_mw)] [(.ref b19), (.int z1_s0), (.int (2 : Int32)), (.int (0 : Int32))]))
    refine Goes.go (fun _ k => XS.aload X27.here hx rfl (hb hby at_147) rfl rfl  k) ?_
    show Goes p e below s _ _ _ (T27.setTop (mkF m 149 #[.val (.int p0), .val (.int p1), .val (.int p2), .val (.int p3), .val (.int p4), .val (.int (2 : Int32)), .val (.int z1_s0), .val (.ref b19), .val (.ref c27_mw)] [(.ref c27_mw), (.ref b19), (.int z1_s0), (.int (2 : Int32)), (.int (0 : Int32))]))
    refine Goes.go (fun _ k => XS.iloadN X27.here hx rfl (hb hby at_149) rfl  k) ?_
    show Goes p e below s _ _ _ (T27.setTop (mkF m 150 #[.val (.int p0), .val (.int p1), .val (.int p2), .val (.int p3), .val (.int p4), .val (.int (2 : Int32)), .val (.int z1_s0), .val (.ref b19), .val (.ref c27_mw)] [(.int p1), (.ref c27_mw), (.ref b19), (.int z1_s0), (.int (2 : Int32)), (.int (0 : Int32))]))
    refine Goes.go (fun _ k => XS.iloadN X27.here hx rfl (hb hby at_150) rfl  k) ?_
    show Goes p e below s _ _ _ (T27.setTop (mkF m 151 #[.val (.int p0), .val (.int p1), .val (.int p2), .val (.int p3), .val (.int p4), .val (.int (2 : Int32)), .val (.int z1_s0), .val (.ref b19), .val (.ref c27_mw)] [(.int p2), (.int p1), (.ref c27_mw), (.ref b19), (.int z1_s0), (.int (2 : Int32)), (.int (0 : Int32))]))
    refine Goes.go (fun _ k => XS.iloadN X27.here hx rfl (hb hby at_151) rfl  k) ?_
    show Goes p e below s _ _ _ (T27.setTop (mkF m 152 #[.val (.int p0), .val (.int p1), .val (.int p2), .val (.int p3), .val (.int p4), .val (.int (2 : Int32)), .val (.int z1_s0), .val (.ref b19), .val (.ref c27_mw)] [(.int p3), (.int p2), (.int p1), (.ref c27_mw), (.ref b19), (.int z1_s0), (.int (2 : Int32)), (.int (0 : Int32))]))
    refine Goes.go (fun _ k => XS.iload X27.here hx rfl (hb hby at_152) rfl  k) ?_
    show Goes p e below s _ _ _ (T27.setTop (mkF m 154 #[.val (.int p0), .val (.int p1), .val (.int p2), .val (.int p3), .val (.int p4), .val (.int (2 : Int32)), .val (.int z1_s0), .val (.ref b19), .val (.ref c27_mw)] [(.int p4), (.int p3), (.int p2), (.int p1), (.ref c27_mw), (.ref b19), (.int z1_s0), (.int (2 : Int32)), (.int (0 : Int32))]))
    obtain ⟨_, _, ⟨T30, L30, k30, n30⟩, -, X30, ⟨Lc30, hQ30, l30, y30, z30⟩, st30⟩ := Jvm.LawKit.callS X27 hx (y := (⟨"org/cardprobe/CheckCharacterWithWrongCheckPinLaw", "slotOk", "(IIZ[B[BIIII)Z"⟩ : MethodName)) hown (mvT hZ (hw _ (List.mem_of_getElem? (i := 21) rfl))) (mvT hZ (hw _ (List.mem_of_getElem? (i := 22) rfl))) (mvT hZ (hw _ (List.mem_of_getElem? (i := 3) rfl))) (mvT hZ (hw _ (List.mem_of_getElem? (i := 23) rfl))) (by decide) (backOf (W := 0) (rm4 l Z a0 hw [] (0 : Int32) (2 : Int32) z1_s0 b19 c27_mw p1 p2 p3 p4 2 (own_upd (own_upd (fun _ => 0) 0 (nar .byte (f1 (0 : Int32) (2 : Int32) z1_s0 p1 p2 p3 p4))) 1 (nar .byte (f1 (1 : Int32) (2 : Int32) z1_s0 p1 p2 p3 p4))) 2 (own_upd (own_upd (own_upd (fun _ => 0) 0 (nar .byte (f1 (0 : Int32) (2 : Int32) z1_s0 p1 p2 p3 p4))) 1 (nar .byte (f1 (1 : Int32) (2 : Int32) z1_s0 p1 p2 p3 p4))) (2 - 1) (nar .byte ((if ((own_upd (own_upd (fun _ => 0) 0 (nar .byte (f1 (0 : Int32) (2 : Int32) z1_s0 p1 p2 p3 p4))) 1 (nar .byte (f1 (1 : Int32) (2 : Int32) z1_s0 p1 p2 p3 p4))) (2 - 1)) = (0 : Int32) then (255 : Int32) else (0 : Int32)).toInt8.toInt32))) 0 h27 n0 Z27 (A24.keep Kq27 nin0) G27_0 rfl rfl rfl (by decide)) hZ (hw _ (List.mem_of_getElem? (i := 23) rfl)) (hw _ (List.mem_of_getElem? (i := 3) rfl)) (by decide) (by decide)) (g := (mkF m 154 #[.val (.int p0), .val (.int p1), .val (.int p2), .val (.int p3), .val (.int p4), .val (.int (2 : Int32)), .val (.int z1_s0), .val (.ref b19), .val (.ref c27_mw)] [(.int p4), (.int p3), (.int p2), (.int p1), (.ref c27_mw), (.ref b19), (.int z1_s0), (.int (2 : Int32)), (.int (0 : Int32))])) rfl (by rw [hml]; rfl) (argsL := [(.int (0 : Int32)), (.int (2 : Int32)), (.int z1_s0), (.ref b19), (.ref c27_mw), (.int p1), (.int p2), (.int p3), (.int p4)]) (rest := []) (lenOf pd_3 rfl) rfl (by show 2 * 0 + _ ≤ _; exact Nat.le_of_eq rfl) (hb hby at_154) (fun _ _ => ⟨rfl, e27, (by decide : 2 + 0 ≤ _), (by decide : 6 + 0 ≤ _)⟩)
    dsimp only [Pt.U, Pt.locs, Pt.cells, Pt.slots] at X30 l30 y30 z30 st30 hQ30
    subst l30 y30 z30
    obtain ⟨rfl, N30q, e30⟩ := hQ30
    have N30 := Fr.app N27 N30q
    refine Goes.go st30 ?_
    show Goes p e below s _ _ _ (T30.setTop (mkF m 157 #[.val (.int p0), .val (.int p1), .val (.int p2), .val (.int p3), .val (.int p4), .val (.int (2 : Int32)), .val (.int z1_s0), .val (.ref b19), .val (.ref c27_mw)] [(.int (f4 (0 : Int32) (2 : Int32) z1_s0 b19 c27_mw p1 p2 p3 p4 2 (own_upd (own_upd (fun _ => 0) 0 (nar .byte (f1 (0 : Int32) (2 : Int32) z1_s0 p1 p2 p3 p4))) 1 (nar .byte (f1 (1 : Int32) (2 : Int32) z1_s0 p1 p2 p3 p4))) 2 (own_upd (own_upd (own_upd (fun _ => 0) 0 (nar .byte (f1 (0 : Int32) (2 : Int32) z1_s0 p1 p2 p3 p4))) 1 (nar .byte (f1 (1 : Int32) (2 : Int32) z1_s0 p1 p2 p3 p4))) (2 - 1) (nar .byte ((if ((own_upd (own_upd (fun _ => 0) 0 (nar .byte (f1 (0 : Int32) (2 : Int32) z1_s0 p1 p2 p3 p4))) 1 (nar .byte (f1 (1 : Int32) (2 : Int32) z1_s0 p1 p2 p3 p4))) (2 - 1)) = (0 : Int32) then (255 : Int32) else (0 : Int32)).toInt8.toInt32))) 0))]))
    have hc157_31 : ¬ ((f4 (0 : Int32) (2 : Int32) z1_s0 b19 c27_mw p1 p2 p3 p4 2 (own_upd (own_upd (fun _ => 0) 0 (nar .byte (f1 (0 : Int32) (2 : Int32) z1_s0 p1 p2 p3 p4))) 1 (nar .byte (f1 (1 : Int32) (2 : Int32) z1_s0 p1 p2 p3 p4))) 2 (own_upd (own_upd (own_upd (fun _ => 0) 0 (nar .byte (f1 (0 : Int32) (2 : Int32) z1_s0 p1 p2 p3 p4))) 1 (nar .byte (f1 (1 : Int32) (2 : Int32) z1_s0 p1 p2 p3 p4))) (2 - 1) (nar .byte ((if ((own_upd (own_upd (fun _ => 0) 0 (nar .byte (f1 (0 : Int32) (2 : Int32) z1_s0 p1 p2 p3 p4))) 1 (nar .byte (f1 (1 : Int32) (2 : Int32) z1_s0 p1 p2 p3 p4))) (2 - 1)) = (0 : Int32) then (255 : Int32) else (0 : Int32)).toInt8.toInt32))) 0) = (0 : Int32)) := own_near (by decide) (by decide) (own_f1b _ _ _ _ _ _ _) (own_f1b _ _ _ _ _ _ _)
    refine Goes.go (fun _ k => XS.ifNo X30.here hx rfl (hb hby at_157) rfl ((if0 _ _).trans (feq hc157_31).1) k) ?_
    show Goes p e below s _ _ _ (T30.setTop (mkF m 160 #[.val (.int p0), .val (.int p1), .val (.int p2), .val (.int p3), .val (.int p4), .val (.int (2 : Int32)), .val (.int z1_s0), .val (.ref b19), .val (.ref c27_mw)] []))
    refine Goes.go (fun _ k => XS.iconst X30.here hx rfl (hb hby at_160) k) ?_
    show Goes p e below s _ _ _ (T30.setTop (mkF m 161 #[.val (.int p0), .val (.int p1), .val (.int p2), .val (.int p3), .val (.int p4), .val (.int (2 : Int32)), .val (.int z1_s0), .val (.ref b19), .val (.ref c27_mw)] [(.int (1 : Int32))]))
    refine Goes.go (fun _ k => XS.iload X30.here hx rfl (hb hby at_161) rfl  k) ?_
    show Goes p e below s _ _ _ (T30.setTop (mkF m 163 #[.val (.int p0), .val (.int p1), .val (.int p2), .val (.int p3), .val (.int p4), .val (.int (2 : Int32)), .val (.int z1_s0), .val (.ref b19), .val (.ref c27_mw)] [(.int (2 : Int32)), (.int (1 : Int32))]))
    refine Goes.go (fun _ k => XS.iload X30.here hx rfl (hb hby at_163) rfl  k) ?_
    show Goes p e below s _ _ _ (T30.setTop (mkF m 165 #[.val (.int p0), .val (.int p1), .val (.int p2), .val (.int p3), .val (.int p4), .val (.int (2 : Int32)), .val (.int z1_s0), .val (.ref b19), .val (.ref c27_mw)] [(.int z1_s0), (.int (2 : Int32)), (.int (1 : Int32))]))
    refine Goes.go (fun _ k => XS.aload X30.here hx rfl (hb hby at_165) rfl rfl  k) ?_
    show Goes p e below s _ _ _ (T30.setTop (mkF m 167 #[.val (.int p0), .val (.int p1), .val (.int p2), .val (.int p3), .val (.int p4), .val (.int (2 : Int32)), .val (.int z1_s0), .val (.ref b19), .val (.ref c27_mw)] [(.ref b19), (.int z1_s0), (.int (2 : Int32)), (.int (1 : Int32))]))
    refine Goes.go (fun _ k => XS.aload X30.here hx rfl (hb hby at_167) rfl rfl  k) ?_
    show Goes p e below s _ _ _ (T30.setTop (mkF m 169 #[.val (.int p0), .val (.int p1), .val (.int p2), .val (.int p3), .val (.int p4), .val (.int (2 : Int32)), .val (.int z1_s0), .val (.ref b19), .val (.ref c27_mw)] [(.ref c27_mw), (.ref b19), (.int z1_s0), (.int (2 : Int32)), (.int (1 : Int32))]))
    refine Goes.go (fun _ k => XS.iloadN X30.here hx rfl (hb hby at_169) rfl  k) ?_
    show Goes p e below s _ _ _ (T30.setTop (mkF m 170 #[.val (.int p0), .val (.int p1), .val (.int p2), .val (.int p3), .val (.int p4), .val (.int (2 : Int32)), .val (.int z1_s0), .val (.ref b19), .val (.ref c27_mw)] [(.int p1), (.ref c27_mw), (.ref b19), (.int z1_s0), (.int (2 : Int32)), (.int (1 : Int32))]))
    refine Goes.go (fun _ k => XS.iloadN X30.here hx rfl (hb hby at_170) rfl  k) ?_
    show Goes p e below s _ _ _ (T30.setTop (mkF m 171 #[.val (.int p0), .val (.int p1), .val (.int p2), .val (.int p3), .val (.int p4), .val (.int (2 : Int32)), .val (.int z1_s0), .val (.ref b19), .val (.ref c27_mw)] [(.int p2), (.int p1), (.ref c27_mw), (.ref b19), (.int z1_s0), (.int (2 : Int32)), (.int (1 : Int32))]))
    refine Goes.go (fun _ k => XS.iloadN X30.here hx rfl (hb hby at_171) rfl  k) ?_
    show Goes p e below s _ _ _ (T30.setTop (mkF m 172 #[.val (.int p0), .val (.int p1), .val (.int p2), .val (.int p3), .val (.int p4), .val (.int (2 : Int32)), .val (.int z1_s0), .val (.ref b19), .val (.ref c27_mw)] [(.int p3), (.int p2), (.int p1), (.ref c27_mw), (.ref b19), (.int z1_s0), (.int (2 : Int32)), (.int (1 : Int32))]))
    refine Goes.go (fun _ k => XS.iload X30.here hx rfl (hb hby at_172) rfl  k) ?_
    show Goes p e below s _ _ _ (T30.setTop (mkF m 174 #[.val (.int p0), .val (.int p1), .val (.int p2), .val (.int p3), .val (.int p4), .val (.int (2 : Int32)), .val (.int z1_s0), .val (.ref b19), .val (.ref c27_mw)] [(.int p4), (.int p3), (.int p2), (.int p1), (.ref c27_mw), (.ref b19), (.int z1_s0), (.int (2 : Int32)), (.int (1 : Int32))]))
    obtain ⟨_, _, ⟨T32, L32, k32, n32⟩, -, X32, ⟨Lc32, hQ32, l32, y32, z32⟩, st32⟩ := Jvm.LawKit.callS X30 hx (y := (⟨"org/cardprobe/CheckCharacterWithWrongCheckPinLaw", "slotOk", "(IIZ[B[BIIII)Z"⟩ : MethodName)) hown (mvT hZ (hw _ (List.mem_of_getElem? (i := 21) rfl))) (mvT hZ (hw _ (List.mem_of_getElem? (i := 22) rfl))) (mvT hZ (hw _ (List.mem_of_getElem? (i := 3) rfl))) (mvT hZ (hw _ (List.mem_of_getElem? (i := 23) rfl))) (by decide) (backOf (W := 0) (rm4 l Z a0 hw [] (1 : Int32) (2 : Int32) z1_s0 b19 c27_mw p1 p2 p3 p4 2 (own_upd (own_upd (fun _ => 0) 0 (nar .byte (f1 (0 : Int32) (2 : Int32) z1_s0 p1 p2 p3 p4))) 1 (nar .byte (f1 (1 : Int32) (2 : Int32) z1_s0 p1 p2 p3 p4))) 2 (own_upd (own_upd (own_upd (fun _ => 0) 0 (nar .byte (f1 (0 : Int32) (2 : Int32) z1_s0 p1 p2 p3 p4))) 1 (nar .byte (f1 (1 : Int32) (2 : Int32) z1_s0 p1 p2 p3 p4))) (2 - 1) (nar .byte ((if ((own_upd (own_upd (fun _ => 0) 0 (nar .byte (f1 (0 : Int32) (2 : Int32) z1_s0 p1 p2 p3 p4))) 1 (nar .byte (f1 (1 : Int32) (2 : Int32) z1_s0 p1 p2 p3 p4))) (2 - 1)) = (0 : Int32) then (255 : Int32) else (0 : Int32)).toInt8.toInt32))) 1 h27 n0 Z27 (A24.keep Kq27 nin0) G27_0 rfl rfl rfl (by decide)) hZ (hw _ (List.mem_of_getElem? (i := 23) rfl)) (hw _ (List.mem_of_getElem? (i := 3) rfl)) (by decide) (by decide)) (g := (mkF m 174 #[.val (.int p0), .val (.int p1), .val (.int p2), .val (.int p3), .val (.int p4), .val (.int (2 : Int32)), .val (.int z1_s0), .val (.ref b19), .val (.ref c27_mw)] [(.int p4), (.int p3), (.int p2), (.int p1), (.ref c27_mw), (.ref b19), (.int z1_s0), (.int (2 : Int32)), (.int (1 : Int32))])) rfl (by rw [hml]; rfl) (argsL := [(.int (1 : Int32)), (.int (2 : Int32)), (.int z1_s0), (.ref b19), (.ref c27_mw), (.int p1), (.int p2), (.int p3), (.int p4)]) (rest := []) (lenOf pd_3 rfl) rfl (by show 2 * 0 + _ ≤ _; exact Nat.le_of_eq rfl) (hb hby at_174) (fun _ _ => ⟨rfl, e30, (by decide : 2 + 0 ≤ _), (by decide : 6 + 0 ≤ _)⟩)
    dsimp only [Pt.U, Pt.locs, Pt.cells, Pt.slots] at X32 l32 y32 z32 st32 hQ32
    subst l32 y32 z32
    obtain ⟨rfl, N32q, e32⟩ := hQ32
    have N32 := Fr.app N30 N32q
    refine Goes.go st32 ?_
    show Goes p e below s _ _ _ (T32.setTop (mkF m 177 #[.val (.int p0), .val (.int p1), .val (.int p2), .val (.int p3), .val (.int p4), .val (.int (2 : Int32)), .val (.int z1_s0), .val (.ref b19), .val (.ref c27_mw)] [(.int (f4 (1 : Int32) (2 : Int32) z1_s0 b19 c27_mw p1 p2 p3 p4 2 (own_upd (own_upd (fun _ => 0) 0 (nar .byte (f1 (0 : Int32) (2 : Int32) z1_s0 p1 p2 p3 p4))) 1 (nar .byte (f1 (1 : Int32) (2 : Int32) z1_s0 p1 p2 p3 p4))) 2 (own_upd (own_upd (own_upd (fun _ => 0) 0 (nar .byte (f1 (0 : Int32) (2 : Int32) z1_s0 p1 p2 p3 p4))) 1 (nar .byte (f1 (1 : Int32) (2 : Int32) z1_s0 p1 p2 p3 p4))) (2 - 1) (nar .byte ((if ((own_upd (own_upd (fun _ => 0) 0 (nar .byte (f1 (0 : Int32) (2 : Int32) z1_s0 p1 p2 p3 p4))) 1 (nar .byte (f1 (1 : Int32) (2 : Int32) z1_s0 p1 p2 p3 p4))) (2 - 1)) = (0 : Int32) then (255 : Int32) else (0 : Int32)).toInt8.toInt32))) 1))]))
    have hc177_33 : ¬ ((f4 (1 : Int32) (2 : Int32) z1_s0 b19 c27_mw p1 p2 p3 p4 2 (own_upd (own_upd (fun _ => 0) 0 (nar .byte (f1 (0 : Int32) (2 : Int32) z1_s0 p1 p2 p3 p4))) 1 (nar .byte (f1 (1 : Int32) (2 : Int32) z1_s0 p1 p2 p3 p4))) 2 (own_upd (own_upd (own_upd (fun _ => 0) 0 (nar .byte (f1 (0 : Int32) (2 : Int32) z1_s0 p1 p2 p3 p4))) 1 (nar .byte (f1 (1 : Int32) (2 : Int32) z1_s0 p1 p2 p3 p4))) (2 - 1) (nar .byte ((if ((own_upd (own_upd (fun _ => 0) 0 (nar .byte (f1 (0 : Int32) (2 : Int32) z1_s0 p1 p2 p3 p4))) 1 (nar .byte (f1 (1 : Int32) (2 : Int32) z1_s0 p1 p2 p3 p4))) (2 - 1)) = (0 : Int32) then (255 : Int32) else (0 : Int32)).toInt8.toInt32))) 1) = (0 : Int32)) := own_last (by decide) (by decide) (own_f1b _ _ _ _ _ _ _) rfl
    refine Goes.go (fun _ k => XS.ifNo X32.here hx rfl (hb hby at_177) rfl ((if0 _ _).trans (feq hc177_33).1) k) ?_
    show Goes p e below s _ _ _ (T32.setTop (mkF m 180 #[.val (.int p0), .val (.int p1), .val (.int p2), .val (.int p3), .val (.int p4), .val (.int (2 : Int32)), .val (.int z1_s0), .val (.ref b19), .val (.ref c27_mw)] []))
    refine Goes.go (fun _ k => XS.iconst X32.here hx rfl (hb hby at_180) k) ?_
    show Goes p e below s _ _ _ (T32.setTop (mkF m 181 #[.val (.int p0), .val (.int p1), .val (.int p2), .val (.int p3), .val (.int p4), .val (.int (2 : Int32)), .val (.int z1_s0), .val (.ref b19), .val (.ref c27_mw)] [(.int (2 : Int32))]))
    refine Goes.go (fun _ k => XS.iload X32.here hx rfl (hb hby at_181) rfl  k) ?_
    show Goes p e below s _ _ _ (T32.setTop (mkF m 183 #[.val (.int p0), .val (.int p1), .val (.int p2), .val (.int p3), .val (.int p4), .val (.int (2 : Int32)), .val (.int z1_s0), .val (.ref b19), .val (.ref c27_mw)] [(.int (2 : Int32)), (.int (2 : Int32))]))
    refine Goes.go (fun _ k => XS.iload X32.here hx rfl (hb hby at_183) rfl  k) ?_
    show Goes p e below s _ _ _ (T32.setTop (mkF m 185 #[.val (.int p0), .val (.int p1), .val (.int p2), .val (.int p3), .val (.int p4), .val (.int (2 : Int32)), .val (.int z1_s0), .val (.ref b19), .val (.ref c27_mw)] [(.int z1_s0), (.int (2 : Int32)), (.int (2 : Int32))]))
    refine Goes.go (fun _ k => XS.aload X32.here hx rfl (hb hby at_185) rfl rfl  k) ?_
    show Goes p e below s _ _ _ (T32.setTop (mkF m 187 #[.val (.int p0), .val (.int p1), .val (.int p2), .val (.int p3), .val (.int p4), .val (.int (2 : Int32)), .val (.int z1_s0), .val (.ref b19), .val (.ref c27_mw)] [(.ref b19), (.int z1_s0), (.int (2 : Int32)), (.int (2 : Int32))]))
    refine Goes.go (fun _ k => XS.aload X32.here hx rfl (hb hby at_187) rfl rfl  k) ?_
    show Goes p e below s _ _ _ (T32.setTop (mkF m 189 #[.val (.int p0), .val (.int p1), .val (.int p2), .val (.int p3), .val (.int p4), .val (.int (2 : Int32)), .val (.int z1_s0), .val (.ref b19), .val (.ref c27_mw)] [(.ref c27_mw), (.ref b19), (.int z1_s0), (.int (2 : Int32)), (.int (2 : Int32))]))
    refine Goes.go (fun _ k => XS.iloadN X32.here hx rfl (hb hby at_189) rfl  k) ?_
    show Goes p e below s _ _ _ (T32.setTop (mkF m 190 #[.val (.int p0), .val (.int p1), .val (.int p2), .val (.int p3), .val (.int p4), .val (.int (2 : Int32)), .val (.int z1_s0), .val (.ref b19), .val (.ref c27_mw)] [(.int p1), (.ref c27_mw), (.ref b19), (.int z1_s0), (.int (2 : Int32)), (.int (2 : Int32))]))
    refine Goes.go (fun _ k => XS.iloadN X32.here hx rfl (hb hby at_190) rfl  k) ?_
    show Goes p e below s _ _ _ (T32.setTop (mkF m 191 #[.val (.int p0), .val (.int p1), .val (.int p2), .val (.int p3), .val (.int p4), .val (.int (2 : Int32)), .val (.int z1_s0), .val (.ref b19), .val (.ref c27_mw)] [(.int p2), (.int p1), (.ref c27_mw), (.ref b19), (.int z1_s0), (.int (2 : Int32)), (.int (2 : Int32))]))
    refine Goes.go (fun _ k => XS.iloadN X32.here hx rfl (hb hby at_191) rfl  k) ?_
    show Goes p e below s _ _ _ (T32.setTop (mkF m 192 #[.val (.int p0), .val (.int p1), .val (.int p2), .val (.int p3), .val (.int p4), .val (.int (2 : Int32)), .val (.int z1_s0), .val (.ref b19), .val (.ref c27_mw)] [(.int p3), (.int p2), (.int p1), (.ref c27_mw), (.ref b19), (.int z1_s0), (.int (2 : Int32)), (.int (2 : Int32))]))
    refine Goes.go (fun _ k => XS.iload X32.here hx rfl (hb hby at_192) rfl  k) ?_
    show Goes p e below s _ _ _ (T32.setTop (mkF m 194 #[.val (.int p0), .val (.int p1), .val (.int p2), .val (.int p3), .val (.int p4), .val (.int (2 : Int32)), .val (.int z1_s0), .val (.ref b19), .val (.ref c27_mw)] [(.int p4), (.int p3), (.int p2), (.int p1), (.ref c27_mw), (.ref b19), (.int z1_s0), (.int (2 : Int32)), (.int (2 : Int32))]))
    obtain ⟨_, _, ⟨T34, L34, k34, n34⟩, -, X34, ⟨Lc34, hQ34, l34, y34, z34⟩, st34⟩ := Jvm.LawKit.callS X32 hx (y := (⟨"org/cardprobe/CheckCharacterWithWrongCheckPinLaw", "slotOk", "(IIZ[B[BIIII)Z"⟩ : MethodName)) hown (mvT hZ (hw _ (List.mem_of_getElem? (i := 21) rfl))) (mvT hZ (hw _ (List.mem_of_getElem? (i := 22) rfl))) (mvT hZ (hw _ (List.mem_of_getElem? (i := 3) rfl))) (mvT hZ (hw _ (List.mem_of_getElem? (i := 23) rfl))) (by decide) (backOf (W := 0) (rm4 l Z a0 hw [] (2 : Int32) (2 : Int32) z1_s0 b19 c27_mw p1 p2 p3 p4 2 (own_upd (own_upd (fun _ => 0) 0 (nar .byte (f1 (0 : Int32) (2 : Int32) z1_s0 p1 p2 p3 p4))) 1 (nar .byte (f1 (1 : Int32) (2 : Int32) z1_s0 p1 p2 p3 p4))) 2 (own_upd (own_upd (own_upd (fun _ => 0) 0 (nar .byte (f1 (0 : Int32) (2 : Int32) z1_s0 p1 p2 p3 p4))) 1 (nar .byte (f1 (1 : Int32) (2 : Int32) z1_s0 p1 p2 p3 p4))) (2 - 1) (nar .byte ((if ((own_upd (own_upd (fun _ => 0) 0 (nar .byte (f1 (0 : Int32) (2 : Int32) z1_s0 p1 p2 p3 p4))) 1 (nar .byte (f1 (1 : Int32) (2 : Int32) z1_s0 p1 p2 p3 p4))) (2 - 1)) = (0 : Int32) then (255 : Int32) else (0 : Int32)).toInt8.toInt32))) 2 h27 n0 Z27 (A24.keep Kq27 nin0) G27_0 rfl rfl rfl (by decide)) hZ (hw _ (List.mem_of_getElem? (i := 23) rfl)) (hw _ (List.mem_of_getElem? (i := 3) rfl)) (by decide) (by decide)) (g := (mkF m 194 #[.val (.int p0), .val (.int p1), .val (.int p2), .val (.int p3), .val (.int p4), .val (.int (2 : Int32)), .val (.int z1_s0), .val (.ref b19), .val (.ref c27_mw)] [(.int p4), (.int p3), (.int p2), (.int p1), (.ref c27_mw), (.ref b19), (.int z1_s0), (.int (2 : Int32)), (.int (2 : Int32))])) rfl (by rw [hml]; rfl) (argsL := [(.int (2 : Int32)), (.int (2 : Int32)), (.int z1_s0), (.ref b19), (.ref c27_mw), (.int p1), (.int p2), (.int p3), (.int p4)]) (rest := []) (lenOf pd_3 rfl) rfl (by show 2 * 0 + _ ≤ _; exact Nat.le_of_eq rfl) (hb hby at_194) (fun _ _ => ⟨rfl, e32, (by decide : 2 + 0 ≤ _), (by decide : 6 + 0 ≤ _)⟩)
    dsimp only [Pt.U, Pt.locs, Pt.cells, Pt.slots] at X34 l34 y34 z34 st34 hQ34
    subst l34 y34 z34
    obtain ⟨rfl, N34q, e34⟩ := hQ34
    have N34 := Fr.app N32 N34q
    refine Goes.go st34 ?_
    show Goes p e below s _ _ _ (T34.setTop (mkF m 197 #[.val (.int p0), .val (.int p1), .val (.int p2), .val (.int p3), .val (.int p4), .val (.int (2 : Int32)), .val (.int z1_s0), .val (.ref b19), .val (.ref c27_mw)] [(.int (f4 (2 : Int32) (2 : Int32) z1_s0 b19 c27_mw p1 p2 p3 p4 2 (own_upd (own_upd (fun _ => 0) 0 (nar .byte (f1 (0 : Int32) (2 : Int32) z1_s0 p1 p2 p3 p4))) 1 (nar .byte (f1 (1 : Int32) (2 : Int32) z1_s0 p1 p2 p3 p4))) 2 (own_upd (own_upd (own_upd (fun _ => 0) 0 (nar .byte (f1 (0 : Int32) (2 : Int32) z1_s0 p1 p2 p3 p4))) 1 (nar .byte (f1 (1 : Int32) (2 : Int32) z1_s0 p1 p2 p3 p4))) (2 - 1) (nar .byte ((if ((own_upd (own_upd (fun _ => 0) 0 (nar .byte (f1 (0 : Int32) (2 : Int32) z1_s0 p1 p2 p3 p4))) 1 (nar .byte (f1 (1 : Int32) (2 : Int32) z1_s0 p1 p2 p3 p4))) (2 - 1)) = (0 : Int32) then (255 : Int32) else (0 : Int32)).toInt8.toInt32))) 2))]))
    have hc197_35 : ¬ ((f4 (2 : Int32) (2 : Int32) z1_s0 b19 c27_mw p1 p2 p3 p4 2 (own_upd (own_upd (fun _ => 0) 0 (nar .byte (f1 (0 : Int32) (2 : Int32) z1_s0 p1 p2 p3 p4))) 1 (nar .byte (f1 (1 : Int32) (2 : Int32) z1_s0 p1 p2 p3 p4))) 2 (own_upd (own_upd (own_upd (fun _ => 0) 0 (nar .byte (f1 (0 : Int32) (2 : Int32) z1_s0 p1 p2 p3 p4))) 1 (nar .byte (f1 (1 : Int32) (2 : Int32) z1_s0 p1 p2 p3 p4))) (2 - 1) (nar .byte ((if ((own_upd (own_upd (fun _ => 0) 0 (nar .byte (f1 (0 : Int32) (2 : Int32) z1_s0 p1 p2 p3 p4))) 1 (nar .byte (f1 (1 : Int32) (2 : Int32) z1_s0 p1 p2 p3 p4))) (2 - 1)) = (0 : Int32) then (255 : Int32) else (0 : Int32)).toInt8.toInt32))) 2) = (0 : Int32)) := own_far (by decide)
    refine Goes.go (fun _ k => XS.ifNo X34.here hx rfl (hb hby at_197) rfl ((if0 _ _).trans (feq hc197_35).1) k) ?_
    show Goes p e below s _ _ _ (T34.setTop (mkF m 200 #[.val (.int p0), .val (.int p1), .val (.int p2), .val (.int p3), .val (.int p4), .val (.int (2 : Int32)), .val (.int z1_s0), .val (.ref b19), .val (.ref c27_mw)] []))
    refine Goes.go (fun _ k => XS.iconst X34.here hx rfl (hb hby at_200) k) ?_
    show Goes p e below s _ _ _ (T34.setTop (mkF m 201 #[.val (.int p0), .val (.int p1), .val (.int p2), .val (.int p3), .val (.int p4), .val (.int (2 : Int32)), .val (.int z1_s0), .val (.ref b19), .val (.ref c27_mw)] [(.int (3 : Int32))]))
    refine Goes.go (fun _ k => XS.iload X34.here hx rfl (hb hby at_201) rfl  k) ?_
    show Goes p e below s _ _ _ (T34.setTop (mkF m 203 #[.val (.int p0), .val (.int p1), .val (.int p2), .val (.int p3), .val (.int p4), .val (.int (2 : Int32)), .val (.int z1_s0), .val (.ref b19), .val (.ref c27_mw)] [(.int (2 : Int32)), (.int (3 : Int32))]))
    refine Goes.go (fun _ k => XS.iload X34.here hx rfl (hb hby at_203) rfl  k) ?_
    show Goes p e below s _ _ _ (T34.setTop (mkF m 205 #[.val (.int p0), .val (.int p1), .val (.int p2), .val (.int p3), .val (.int p4), .val (.int (2 : Int32)), .val (.int z1_s0), .val (.ref b19), .val (.ref c27_mw)] [(.int z1_s0), (.int (2 : Int32)), (.int (3 : Int32))]))
    refine Goes.go (fun _ k => XS.aload X34.here hx rfl (hb hby at_205) rfl rfl  k) ?_
    show Goes p e below s _ _ _ (T34.setTop (mkF m 207 #[.val (.int p0), .val (.int p1), .val (.int p2), .val (.int p3), .val (.int p4), .val (.int (2 : Int32)), .val (.int z1_s0), .val (.ref b19), .val (.ref c27_mw)] [(.ref b19), (.int z1_s0), (.int (2 : Int32)), (.int (3 : Int32))]))
    refine Goes.go (fun _ k => XS.aload X34.here hx rfl (hb hby at_207) rfl rfl  k) ?_
    show Goes p e below s _ _ _ (T34.setTop (mkF m 209 #[.val (.int p0), .val (.int p1), .val (.int p2), .val (.int p3), .val (.int p4), .val (.int (2 : Int32)), .val (.int z1_s0), .val (.ref b19), .val (.ref c27_mw)] [(.ref c27_mw), (.ref b19), (.int z1_s0), (.int (2 : Int32)), (.int (3 : Int32))]))
    refine Goes.go (fun _ k => XS.iloadN X34.here hx rfl (hb hby at_209) rfl  k) ?_
    show Goes p e below s _ _ _ (T34.setTop (mkF m 210 #[.val (.int p0), .val (.int p1), .val (.int p2), .val (.int p3), .val (.int p4), .val (.int (2 : Int32)), .val (.int z1_s0), .val (.ref b19), .val (.ref c27_mw)] [(.int p1), (.ref c27_mw), (.ref b19), (.int z1_s0), (.int (2 : Int32)), (.int (3 : Int32))]))
    refine Goes.go (fun _ k => XS.iloadN X34.here hx rfl (hb hby at_210) rfl  k) ?_
    show Goes p e below s _ _ _ (T34.setTop (mkF m 211 #[.val (.int p0), .val (.int p1), .val (.int p2), .val (.int p3), .val (.int p4), .val (.int (2 : Int32)), .val (.int z1_s0), .val (.ref b19), .val (.ref c27_mw)] [(.int p2), (.int p1), (.ref c27_mw), (.ref b19), (.int z1_s0), (.int (2 : Int32)), (.int (3 : Int32))]))
    refine Goes.go (fun _ k => XS.iloadN X34.here hx rfl (hb hby at_211) rfl  k) ?_
    show Goes p e below s _ _ _ (T34.setTop (mkF m 212 #[.val (.int p0), .val (.int p1), .val (.int p2), .val (.int p3), .val (.int p4), .val (.int (2 : Int32)), .val (.int z1_s0), .val (.ref b19), .val (.ref c27_mw)] [(.int p3), (.int p2), (.int p1), (.ref c27_mw), (.ref b19), (.int z1_s0), (.int (2 : Int32)), (.int (3 : Int32))]))
    refine Goes.go (fun _ k => XS.iload X34.here hx rfl (hb hby at_212) rfl  k) ?_
    show Goes p e below s _ _ _ (T34.setTop (mkF m 214 #[.val (.int p0), .val (.int p1), .val (.int p2), .val (.int p3), .val (.int p4), .val (.int (2 : Int32)), .val (.int z1_s0), .val (.ref b19), .val (.ref c27_mw)] [(.int p4), (.int p3), (.int p2), (.int p1), (.ref c27_mw), (.ref b19), (.int z1_s0), (.int (2 : Int32)), (.int (3 : Int32))]))
    obtain ⟨_, _, ⟨T36, L36, k36, n36⟩, -, X36, ⟨Lc36, hQ36, l36, y36, z36⟩, st36⟩ := Jvm.LawKit.callS X34 hx (y := (⟨"org/cardprobe/CheckCharacterWithWrongCheckPinLaw", "slotOk", "(IIZ[B[BIIII)Z"⟩ : MethodName)) hown (mvT hZ (hw _ (List.mem_of_getElem? (i := 21) rfl))) (mvT hZ (hw _ (List.mem_of_getElem? (i := 22) rfl))) (mvT hZ (hw _ (List.mem_of_getElem? (i := 3) rfl))) (mvT hZ (hw _ (List.mem_of_getElem? (i := 23) rfl))) (by decide) (backOf (W := 0) (rm4 l Z a0 hw [] (3 : Int32) (2 : Int32) z1_s0 b19 c27_mw p1 p2 p3 p4 2 (own_upd (own_upd (fun _ => 0) 0 (nar .byte (f1 (0 : Int32) (2 : Int32) z1_s0 p1 p2 p3 p4))) 1 (nar .byte (f1 (1 : Int32) (2 : Int32) z1_s0 p1 p2 p3 p4))) 2 (own_upd (own_upd (own_upd (fun _ => 0) 0 (nar .byte (f1 (0 : Int32) (2 : Int32) z1_s0 p1 p2 p3 p4))) 1 (nar .byte (f1 (1 : Int32) (2 : Int32) z1_s0 p1 p2 p3 p4))) (2 - 1) (nar .byte ((if ((own_upd (own_upd (fun _ => 0) 0 (nar .byte (f1 (0 : Int32) (2 : Int32) z1_s0 p1 p2 p3 p4))) 1 (nar .byte (f1 (1 : Int32) (2 : Int32) z1_s0 p1 p2 p3 p4))) (2 - 1)) = (0 : Int32) then (255 : Int32) else (0 : Int32)).toInt8.toInt32))) 3 h27 n0 Z27 (A24.keep Kq27 nin0) G27_0 rfl rfl rfl (by decide)) hZ (hw _ (List.mem_of_getElem? (i := 23) rfl)) (hw _ (List.mem_of_getElem? (i := 3) rfl)) (by decide) (by decide)) (g := (mkF m 214 #[.val (.int p0), .val (.int p1), .val (.int p2), .val (.int p3), .val (.int p4), .val (.int (2 : Int32)), .val (.int z1_s0), .val (.ref b19), .val (.ref c27_mw)] [(.int p4), (.int p3), (.int p2), (.int p1), (.ref c27_mw), (.ref b19), (.int z1_s0), (.int (2 : Int32)), (.int (3 : Int32))])) rfl (by rw [hml]; rfl) (argsL := [(.int (3 : Int32)), (.int (2 : Int32)), (.int z1_s0), (.ref b19), (.ref c27_mw), (.int p1), (.int p2), (.int p3), (.int p4)]) (rest := []) (lenOf pd_3 rfl) rfl (by show 2 * 0 + _ ≤ _; exact Nat.le_of_eq rfl) (hb hby at_214) (fun _ _ => ⟨rfl, e34, (by decide : 2 + 0 ≤ _), (by decide : 6 + 0 ≤ _)⟩)
    dsimp only [Pt.U, Pt.locs, Pt.cells, Pt.slots] at X36 l36 y36 z36 st36 hQ36
    subst l36 y36 z36
    obtain ⟨rfl, N36q, e36⟩ := hQ36
    have N36 := Fr.app N34 N36q
    refine Goes.go st36 ?_
    show Goes p e below s _ _ _ (T36.setTop (mkF m 217 #[.val (.int p0), .val (.int p1), .val (.int p2), .val (.int p3), .val (.int p4), .val (.int (2 : Int32)), .val (.int z1_s0), .val (.ref b19), .val (.ref c27_mw)] [(.int (f4 (3 : Int32) (2 : Int32) z1_s0 b19 c27_mw p1 p2 p3 p4 2 (own_upd (own_upd (fun _ => 0) 0 (nar .byte (f1 (0 : Int32) (2 : Int32) z1_s0 p1 p2 p3 p4))) 1 (nar .byte (f1 (1 : Int32) (2 : Int32) z1_s0 p1 p2 p3 p4))) 2 (own_upd (own_upd (own_upd (fun _ => 0) 0 (nar .byte (f1 (0 : Int32) (2 : Int32) z1_s0 p1 p2 p3 p4))) 1 (nar .byte (f1 (1 : Int32) (2 : Int32) z1_s0 p1 p2 p3 p4))) (2 - 1) (nar .byte ((if ((own_upd (own_upd (fun _ => 0) 0 (nar .byte (f1 (0 : Int32) (2 : Int32) z1_s0 p1 p2 p3 p4))) 1 (nar .byte (f1 (1 : Int32) (2 : Int32) z1_s0 p1 p2 p3 p4))) (2 - 1)) = (0 : Int32) then (255 : Int32) else (0 : Int32)).toInt8.toInt32))) 3))]))
    have hc217_37 : ¬ ((f4 (3 : Int32) (2 : Int32) z1_s0 b19 c27_mw p1 p2 p3 p4 2 (own_upd (own_upd (fun _ => 0) 0 (nar .byte (f1 (0 : Int32) (2 : Int32) z1_s0 p1 p2 p3 p4))) 1 (nar .byte (f1 (1 : Int32) (2 : Int32) z1_s0 p1 p2 p3 p4))) 2 (own_upd (own_upd (own_upd (fun _ => 0) 0 (nar .byte (f1 (0 : Int32) (2 : Int32) z1_s0 p1 p2 p3 p4))) 1 (nar .byte (f1 (1 : Int32) (2 : Int32) z1_s0 p1 p2 p3 p4))) (2 - 1) (nar .byte ((if ((own_upd (own_upd (fun _ => 0) 0 (nar .byte (f1 (0 : Int32) (2 : Int32) z1_s0 p1 p2 p3 p4))) 1 (nar .byte (f1 (1 : Int32) (2 : Int32) z1_s0 p1 p2 p3 p4))) (2 - 1)) = (0 : Int32) then (255 : Int32) else (0 : Int32)).toInt8.toInt32))) 3) = (0 : Int32)) := own_far (by decide)
    refine Goes.go (fun _ k => XS.ifNo X36.here hx rfl (hb hby at_217) rfl ((if0 _ _).trans (feq hc217_37).1) k) ?_
    show Goes p e below s _ _ _ (T36.setTop (mkF m 220 #[.val (.int p0), .val (.int p1), .val (.int p2), .val (.int p3), .val (.int p4), .val (.int (2 : Int32)), .val (.int z1_s0), .val (.ref b19), .val (.ref c27_mw)] []))
    refine Goes.go (fun _ k => XS.iconst X36.here hx rfl (hb hby at_220) k) ?_
    show Goes p e below s _ _ _ (T36.setTop (mkF m 221 #[.val (.int p0), .val (.int p1), .val (.int p2), .val (.int p3), .val (.int p4), .val (.int (2 : Int32)), .val (.int z1_s0), .val (.ref b19), .val (.ref c27_mw)] [(.int (1 : Int32))]))
    refine Goes.go (fun _ k => XS.goto X36.here hx rfl (pc0 := 221) (pc' := 225) rfl (hb hby at_221) (by decide) (by decide) k) ?_
    show Goes p e below s _ _ _ (T36.setTop (mkF m 225 #[.val (.int p0), .val (.int p1), .val (.int p2), .val (.int p3), .val (.int p4), .val (.int (2 : Int32)), .val (.int z1_s0), .val (.ref b19), .val (.ref c27_mw)] [(.int (1 : Int32))]))
    refine Goes.retN .boolean X36 hx hlk Bd.returns (by simp) (hb hby at_225) ?_ (by decide) (by decide)
    exact ⟨rfl, N36⟩
  · rw [show ((p0 &&& (3 : Int32)) + (1 : Int32)) = (3 : Int32) from by rw [en]; rfl]
    show Goes p e below s _ _ _ (s₁.setTop (mkF m 22 #[.val (.int p0), .val (.int p1), .val (.int p2), .val (.int p3), .val (.int p4), .val (.int (3 : Int32)), .val (.int z1_s0), .unset, .unset] []))
    refine Goes.go (fun _ k => XS.iload X0.here hx rfl (hb hby at_22) rfl  k) ?_
    show Goes p e below s _ _ _ (s₁.setTop (mkF m 24 #[.val (.int p0), .val (.int p1), .val (.int p2), .val (.int p3), .val (.int p4), .val (.int (3 : Int32)), .val (.int z1_s0), .unset, .unset] [(.int (3 : Int32))]))
    obtain ⟨T38, h38, X38, e38, E38, A38, EA38, st38⟩ := own_newA X0 hx hZ (hw _ (List.mem_of_getElem? (i := 0) rfl)) e0 (g := (mkF m 24 #[.val (.int p0), .val (.int p1), .val (.int p2), .val (.int p3), .val (.int p4), .val (.int (3 : Int32)), .val (.int z1_s0), .unset, .unset] [(.int (3 : Int32))])) rfl (hb hby at_24) rfl (n := 3) rfl (cap := 3) (Nat.le_refl _) (by decide) (by decide) (by decide) (by decide) (by decide) (by decide : _ = "[B")
    obtain ⟨b38, g38⟩ : ∃ z, z = h0.size := ⟨_, rfl⟩
    rw [← g38] at A38 EA38 st38
    have gb38 : n0 ≤ b38 := Nat.le_trans Z0 (Nat.le_of_eq g38.symm)
    have sb38 : h0.size ≤ b38 := Nat.le_trans K0.1 (Nat.le_of_eq g38.symm)
    have Z38 := Nat.le_trans Z0 E38.1
    have K38 := Keep.ext K0 E38
    refine Goes.go st38 ?_
    show Goes p e below s _ _ _ (T38.setTop (mkF m 26 #[.val (.int p0), .val (.int p1), .val (.int p2), .val (.int p3), .val (.int p4), .val (.int (3 : Int32)), .val (.int z1_s0), .unset, .unset] [(.ref b38)]))
    refine Goes.go (fun _ k => XS.astore X38.here hx rfl (hb hby at_26) rfl rfl (l' := #[.val (.int p0), .val (.int p1), .val (.int p2), .val (.int p3), .val (.int p4), .val (.int (3 : Int32)), .val (.int z1_s0), .val (.ref b38), .unset]) rfl k) ?_
    show Goes p e below s _ _ _ (T38.setTop (mkF m 28 #[.val (.int p0), .val (.int p1), .val (.int p2), .val (.int p3), .val (.int p4), .val (.int (3 : Int32)), .val (.int z1_s0), .val (.ref b38), .unset] []))
    refine Goes.go (fun _ k => XS.aload X38.here hx rfl (hb hby at_28) rfl rfl  k) ?_
    show Goes p e below s _ _ _ (T38.setTop (mkF m 30 #[.val (.int p0), .val (.int p1), .val (.int p2), .val (.int p3), .val (.int p4), .val (.int (3 : Int32)), .val (.int z1_s0), .val (.ref b38), .unset] [(.ref b38)]))
    refine Goes.go (fun _ k => XS.iconst X38.here hx rfl (hb hby at_30) k) ?_
    show Goes p e below s _ _ _ (T38.setTop (mkF m 31 #[.val (.int p0), .val (.int p1), .val (.int p2), .val (.int p3), .val (.int p4), .val (.int (3 : Int32)), .val (.int z1_s0), .val (.ref b38), .unset] [(.int (0 : Int32)), (.ref b38)]))
    refine Goes.go (fun _ k => XS.iconst X38.here hx rfl (hb hby at_31) k) ?_
    show Goes p e below s _ _ _ (T38.setTop (mkF m 32 #[.val (.int p0), .val (.int p1), .val (.int p2), .val (.int p3), .val (.int p4), .val (.int (3 : Int32)), .val (.int z1_s0), .val (.ref b38), .unset] [(.int (0 : Int32)), (.int (0 : Int32)), (.ref b38)]))
    refine Goes.go (fun _ k => XS.iload X38.here hx rfl (hb hby at_32) rfl  k) ?_
    show Goes p e below s _ _ _ (T38.setTop (mkF m 34 #[.val (.int p0), .val (.int p1), .val (.int p2), .val (.int p3), .val (.int p4), .val (.int (3 : Int32)), .val (.int z1_s0), .val (.ref b38), .unset] [(.int (3 : Int32)), (.int (0 : Int32)), (.int (0 : Int32)), (.ref b38)]))
    refine Goes.go (fun _ k => XS.iload X38.here hx rfl (hb hby at_34) rfl  k) ?_
    show Goes p e below s _ _ _ (T38.setTop (mkF m 36 #[.val (.int p0), .val (.int p1), .val (.int p2), .val (.int p3), .val (.int p4), .val (.int (3 : Int32)), .val (.int z1_s0), .val (.ref b38), .unset] [(.int z1_s0), (.int (3 : Int32)), (.int (0 : Int32)), (.int (0 : Int32)), (.ref b38)]))
    refine Goes.go (fun _ k => XS.iloadN X38.here hx rfl (hb hby at_36) rfl  k) ?_
    show Goes p e below s _ _ _ (T38.setTop (mkF m 37 #[.val (.int p0), .val (.int p1), .val (.int p2), .val (.int p3), .val (.int p4), .val (.int (3 : Int32)), .val (.int z1_s0), .val (.ref b38), .unset] [(.int p1), (.int z1_s0), (.int (3 : Int32)), (.int (0 : Int32)), (.int (0 : Int32)), (.ref b38)]))
    refine Goes.go (fun _ k => XS.iloadN X38.here hx rfl (hb hby at_37) rfl  k) ?_
    show Goes p e below s _ _ _ (T38.setTop (mkF m 38 #[.val (.int p0), .val (.int p1), .val (.int p2), .val (.int p3), .val (.int p4), .val (.int (3 : Int32)), .val (.int z1_s0), .val (.ref b38), .unset] [(.int p2), (.int p1), (.int z1_s0), (.int (3 : Int32)), (.int (0 : Int32)), (.int (0 : Int32)), (.ref b38)]))
    refine Goes.go (fun _ k => XS.iloadN X38.here hx rfl (hb hby at_38) rfl  k) ?_
    show Goes p e below s _ _ _ (T38.setTop (mkF m 39 #[.val (.int p0), .val (.int p1), .val (.int p2), .val (.int p3), .val (.int p4), .val (.int (3 : Int32)), .val (.int z1_s0), .val (.ref b38), .unset] [(.int p3), (.int p2), (.int p1), (.int z1_s0), (.int (3 : Int32)), (.int (0 : Int32)), (.int (0 : Int32)), (.ref b38)]))
    refine Goes.go (fun _ k => XS.iload X38.here hx rfl (hb hby at_39) rfl  k) ?_
    show Goes p e below s _ _ _ (T38.setTop (mkF m 41 #[.val (.int p0), .val (.int p1), .val (.int p2), .val (.int p3), .val (.int p4), .val (.int (3 : Int32)), .val (.int z1_s0), .val (.ref b38), .unset] [(.int p4), (.int p3), (.int p2), (.int p1), (.int z1_s0), (.int (3 : Int32)), (.int (0 : Int32)), (.int (0 : Int32)), (.ref b38)]))
    obtain ⟨_, _, ⟨T39, L39, k39, n39⟩, -, X39, ⟨Lc39, hQ39, l39, y39, z39⟩, st39⟩ := Jvm.LawKit.callS X38 hx (y := (⟨"org/cardprobe/CheckCharacterWithWrongCheckPinLaw", "orig", "(IIZIIII)B"⟩ : MethodName)) hown (mvT hZ (hw _ (List.mem_of_getElem? (i := 1) rfl))) (mvT hZ (hw _ (List.mem_of_getElem? (i := 2) rfl))) (mvT hZ (hw _ (List.mem_of_getElem? (i := 3) rfl))) (mvT hZ (hw _ (List.mem_of_getElem? (i := 4) rfl))) (by decide) (backOf (W := 2) (rm1 l Z a0 hw [] (0 : Int32) (3 : Int32) z1_s0 p1 p2 p3 p4 h38 n0 Z38 ) hZ (hw _ (List.mem_of_getElem? (i := 4) rfl)) (hw _ (List.mem_of_getElem? (i := 3) rfl)) (by decide) (by decide)) (g := (mkF m 41 #[.val (.int p0), .val (.int p1), .val (.int p2), .val (.int p3), .val (.int p4), .val (.int (3 : Int32)), .val (.int z1_s0), .val (.ref b38), .unset] [(.int p4), (.int p3), (.int p2), (.int p1), (.int z1_s0), (.int (3 : Int32)), (.int (0 : Int32)), (.int (0 : Int32)), (.ref b38)])) rfl (by rw [hml]; rfl) (argsL := [(.int (0 : Int32)), (.int (3 : Int32)), (.int z1_s0), (.int p1), (.int p2), (.int p3), (.int p4)]) (rest := [(.int (0 : Int32)), (.ref b38)]) (lenOf pd_1 rfl) rfl (by show 2 * 0 + _ ≤ _; exact Nat.le_of_eq rfl) (hb hby at_41) (fun _ _ => ⟨rfl, e38, (by decide : 1 + 0 ≤ _), (by decide : 3 + 0 ≤ _)⟩)
    dsimp only [Pt.U, Pt.locs, Pt.cells, Pt.slots] at X39 l39 y39 z39 st39 hQ39
    subst l39 y39 z39
    obtain ⟨rfl, N39q, e39⟩ := hQ39
    have N39 := Fr.app N0 N39q
    refine Goes.go st39 ?_
    show Goes p e below s _ _ _ (T39.setTop (mkF m 44 #[.val (.int p0), .val (.int p1), .val (.int p2), .val (.int p3), .val (.int p4), .val (.int (3 : Int32)), .val (.int z1_s0), .val (.ref b38), .unset] [(.int (f1 (0 : Int32) (3 : Int32) z1_s0 p1 p2 p3 p4)), (.int (0 : Int32)), (.ref b38)]))
    obtain ⟨T40, h40, X40, e40, W40, A40, st40⟩ := own_stB X39 hx hZ e39 A38 (i := 0) rfl (by decide) (g := (mkF m 44 #[.val (.int p0), .val (.int p1), .val (.int p2), .val (.int p3), .val (.int p4), .val (.int (3 : Int32)), .val (.int z1_s0), .val (.ref b38), .unset] [(.int (f1 (0 : Int32) (3 : Int32) z1_s0 p1 p2 p3 p4)), (.int (0 : Int32)), (.ref b38)])) rfl rfl (hb hby at_44)
    have N40 := Fr.snoc X40 N39 gb38
    have Z40 := Nat.le_trans Z38 (Keep.of_wr W40).1
    have K40 := Keep.wr K38 W40 (Or.inr sb38)
    refine Goes.go st40 ?_
    show Goes p e below s _ _ _ (T40.setTop (mkF m 45 #[.val (.int p0), .val (.int p1), .val (.int p2), .val (.int p3), .val (.int p4), .val (.int (3 : Int32)), .val (.int z1_s0), .val (.ref b38), .unset] []))
    refine Goes.go (fun _ k => XS.iload X40.here hx rfl (hb hby at_45) rfl  k) ?_
    show Goes p e below s _ _ _ (T40.setTop (mkF m 47 #[.val (.int p0), .val (.int p1), .val (.int p2), .val (.int p3), .val (.int p4), .val (.int (3 : Int32)), .val (.int z1_s0), .val (.ref b38), .unset] [(.int (3 : Int32))]))
    refine Goes.go (fun _ k => XS.iconst X40.here hx rfl (hb hby at_47) k) ?_
    show Goes p e below s _ _ _ (T40.setTop (mkF m 48 #[.val (.int p0), .val (.int p1), .val (.int p2), .val (.int p3), .val (.int p4), .val (.int (3 : Int32)), .val (.int z1_s0), .val (.ref b38), .unset] [(.int (1 : Int32)), (.int (3 : Int32))]))
    have hc48_41 : (1 : Int32) < (3 : Int32) := (by decide)
    refine Goes.go (fun _ k => XS.icmpNo X40.here hx rfl (hb hby at_48) rfl (tlt hc48_41).2.2.2 k) ?_
    show Goes p e below s _ _ _ (T40.setTop (mkF m 51 #[.val (.int p0), .val (.int p1), .val (.int p2), .val (.int p3), .val (.int p4), .val (.int (3 : Int32)), .val (.int z1_s0), .val (.ref b38), .unset] []))
    refine Goes.go (fun _ k => XS.aload X40.here hx rfl (hb hby at_51) rfl rfl  k) ?_
    show Goes p e below s _ _ _ (T40.setTop (mkF m 53 #[.val (.int p0), .val (.int p1), .val (.int p2), .val (.int p3), .val (.int p4), .val (.int (3 : Int32)), .val (.int z1_s0), .val (.ref b38), .unset] [(.ref b38)]))
    refine Goes.go (fun _ k => XS.iconst X40.here hx rfl (hb hby at_53) k) ?_
    show Goes p e below s _ _ _ (T40.setTop (mkF m 54 #[.val (.int p0), .val (.int p1), .val (.int p2), .val (.int p3), .val (.int p4), .val (.int (3 : Int32)), .val (.int z1_s0), .val (.ref b38), .unset] [(.int (1 : Int32)), (.ref b38)]))
    refine Goes.go (fun _ k => XS.iconst X40.here hx rfl (hb hby at_54) k) ?_
    show Goes p e below s _ _ _ (T40.setTop (mkF m 55 #[.val (.int p0), .val (.int p1), .val (.int p2), .val (.int p3), .val (.int p4), .val (.int (3 : Int32)), .val (.int z1_s0), .val (.ref b38), .unset] [(.int (1 : Int32)), (.int (1 : Int32)), (.ref b38)]))
    refine Goes.go (fun _ k => XS.iload X40.here hx rfl (hb hby at_55) rfl  k) ?_
    show Goes p e below s _ _ _ (T40.setTop (mkF m 57 #[.val (.int p0), .val (.int p1), .val (.int p2), .val (.int p3), .val (.int p4), .val (.int (3 : Int32)), .val (.int z1_s0), .val (.ref b38), .unset] [(.int (3 : Int32)), (.int (1 : Int32)), (.int (1 : Int32)), (.ref b38)]))
    refine Goes.go (fun _ k => XS.iload X40.here hx rfl (hb hby at_57) rfl  k) ?_
    show Goes p e below s _ _ _ (T40.setTop (mkF m 59 #[.val (.int p0), .val (.int p1), .val (.int p2), .val (.int p3), .val (.int p4), .val (.int (3 : Int32)), .val (.int z1_s0), .val (.ref b38), .unset] [(.int z1_s0), (.int (3 : Int32)), (.int (1 : Int32)), (.int (1 : Int32)), (.ref b38)]))
    refine Goes.go (fun _ k => XS.iloadN X40.here hx rfl (hb hby at_59) rfl  k) ?_
    show Goes p e below s _ _ _ (T40.setTop (mkF m 60 #[.val (.int p0), .val (.int p1), .val (.int p2), .val (.int p3), .val (.int p4), .val (.int (3 : Int32)), .val (.int z1_s0), .val (.ref b38), .unset] [(.int p1), (.int z1_s0), (.int (3 : Int32)), (.int (1 : Int32)), (.int (1 : Int32)), (.ref b38)]))
    refine Goes.go (fun _ k => XS.iloadN X40.here hx rfl (hb hby at_60) rfl  k) ?_
    show Goes p e below s _ _ _ (T40.setTop (mkF m 61 #[.val (.int p0), .val (.int p1), .val (.int p2), .val (.int p3), .val (.int p4), .val (.int (3 : Int32)), .val (.int z1_s0), .val (.ref b38), .unset] [(.int p2), (.int p1), (.int z1_s0), (.int (3 : Int32)), (.int (1 : Int32)), (.int (1 : Int32)), (.ref b38)]))
    refine Goes.go (fun _ k => XS.iloadN X40.here hx rfl (hb hby at_61) rfl  k) ?_
    show Goes p e below s _ _ _ (T40.setTop (mkF m 62 #[.val (.int p0), .val (.int p1), .val (.int p2), .val (.int p3), .val (.int p4), .val (.int (3 : Int32)), .val (.int z1_s0), .val (.ref b38), .unset] [(.int p3), (.int p2), (.int p1), (.int z1_s0), (.int (3 : Int32)), (.int (1 : Int32)), (.int (1 : Int32)), (.ref b38)]))
    refine Goes.go (fun _ k => XS.iload X40.here hx rfl (hb hby at_62) rfl  k) ?_
    show Goes p e below s _ _ _ (T40.setTop (mkF m 64 #[.val (.int p0), .val (.int p1), .val (.int p2), .val (.int p3), .val (.int p4), .val (.int (3 : Int32)), .val (.int z1_s0), .val (.ref b38), .unset] [(.int p4), (.int p3), (.int p2), (.int p1), (.int z1_s0), (.int (3 : Int32)), (.int (1 : Int32)), (.int (1 : Int32)), (.ref b38)]))
    obtain ⟨_, _, ⟨T42, L42, k42, n42⟩, -, X42, ⟨Lc42, hQ42, l42, y42, z42⟩, st42⟩ := Jvm.LawKit.callS X40 hx (y := (⟨"org/cardprobe/CheckCharacterWithWrongCheckPinLaw", "orig", "(IIZIIII)B"⟩ : MethodName)) hown (mvT hZ (hw _ (List.mem_of_getElem? (i := 1) rfl))) (mvT hZ (hw _ (List.mem_of_getElem? (i := 2) rfl))) (mvT hZ (hw _ (List.mem_of_getElem? (i := 3) rfl))) (mvT hZ (hw _ (List.mem_of_getElem? (i := 4) rfl))) (by decide) (backOf (W := 2) (rm1 l Z a0 hw [] (1 : Int32) (3 : Int32) z1_s0 p1 p2 p3 p4 h40 n0 Z40 ) hZ (hw _ (List.mem_of_getElem? (i := 4) rfl)) (hw _ (List.mem_of_getElem? (i := 3) rfl)) (by decide) (by decide)) (g := (mkF m 64 #[.val (.int p0), .val (.int p1), .val (.int p2), .val (.int p3), .val (.int p4), .val (.int (3 : Int32)), .val (.int z1_s0), .val (.ref b38), .unset] [(.int p4), (.int p3), (.int p2), (.int p1), (.int z1_s0), (.int (3 : Int32)), (.int (1 : Int32)), (.int (1 : Int32)), (.ref b38)])) rfl (by rw [hml]; rfl) (argsL := [(.int (1 : Int32)), (.int (3 : Int32)), (.int z1_s0), (.int p1), (.int p2), (.int p3), (.int p4)]) (rest := [(.int (1 : Int32)), (.ref b38)]) (lenOf pd_1 rfl) rfl (by show 2 * 0 + _ ≤ _; exact Nat.le_of_eq rfl) (hb hby at_64) (fun _ _ => ⟨rfl, e40, (by decide : 1 + 0 ≤ _), (by decide : 3 + 0 ≤ _)⟩)
    dsimp only [Pt.U, Pt.locs, Pt.cells, Pt.slots] at X42 l42 y42 z42 st42 hQ42
    subst l42 y42 z42
    obtain ⟨rfl, N42q, e42⟩ := hQ42
    have N42 := Fr.app N40 N42q
    refine Goes.go st42 ?_
    show Goes p e below s _ _ _ (T42.setTop (mkF m 67 #[.val (.int p0), .val (.int p1), .val (.int p2), .val (.int p3), .val (.int p4), .val (.int (3 : Int32)), .val (.int z1_s0), .val (.ref b38), .unset] [(.int (f1 (1 : Int32) (3 : Int32) z1_s0 p1 p2 p3 p4)), (.int (1 : Int32)), (.ref b38)]))
    obtain ⟨T43, h43, X43, e43, W43, A43, st43⟩ := own_stB X42 hx hZ e42 A40 (i := 1) rfl (by decide) (g := (mkF m 67 #[.val (.int p0), .val (.int p1), .val (.int p2), .val (.int p3), .val (.int p4), .val (.int (3 : Int32)), .val (.int z1_s0), .val (.ref b38), .unset] [(.int (f1 (1 : Int32) (3 : Int32) z1_s0 p1 p2 p3 p4)), (.int (1 : Int32)), (.ref b38)])) rfl rfl (hb hby at_67)
    have N43 := Fr.snoc X43 N42 gb38
    have Z43 := Nat.le_trans Z40 (Keep.of_wr W43).1
    have K43 := Keep.wr K40 W43 (Or.inr sb38)
    refine Goes.go st43 ?_
    show Goes p e below s _ _ _ (T43.setTop (mkF m 68 #[.val (.int p0), .val (.int p1), .val (.int p2), .val (.int p3), .val (.int p4), .val (.int (3 : Int32)), .val (.int z1_s0), .val (.ref b38), .unset] []))
    refine Goes.go (fun _ k => XS.iload X43.here hx rfl (hb hby at_68) rfl  k) ?_
    show Goes p e below s _ _ _ (T43.setTop (mkF m 70 #[.val (.int p0), .val (.int p1), .val (.int p2), .val (.int p3), .val (.int p4), .val (.int (3 : Int32)), .val (.int z1_s0), .val (.ref b38), .unset] [(.int (3 : Int32))]))
    refine Goes.go (fun _ k => XS.iconst X43.here hx rfl (hb hby at_70) k) ?_
    show Goes p e below s _ _ _ (T43.setTop (mkF m 71 #[.val (.int p0), .val (.int p1), .val (.int p2), .val (.int p3), .val (.int p4), .val (.int (3 : Int32)), .val (.int z1_s0), .val (.ref b38), .unset] [(.int (2 : Int32)), (.int (3 : Int32))]))
    have hc71_44 : (2 : Int32) < (3 : Int32) := (by decide)
    refine Goes.go (fun _ k => XS.icmpNo X43.here hx rfl (hb hby at_71) rfl (tlt hc71_44).2.2.2 k) ?_
    show Goes p e below s _ _ _ (T43.setTop (mkF m 74 #[.val (.int p0), .val (.int p1), .val (.int p2), .val (.int p3), .val (.int p4), .val (.int (3 : Int32)), .val (.int z1_s0), .val (.ref b38), .unset] []))
    refine Goes.go (fun _ k => XS.aload X43.here hx rfl (hb hby at_74) rfl rfl  k) ?_
    show Goes p e below s _ _ _ (T43.setTop (mkF m 76 #[.val (.int p0), .val (.int p1), .val (.int p2), .val (.int p3), .val (.int p4), .val (.int (3 : Int32)), .val (.int z1_s0), .val (.ref b38), .unset] [(.ref b38)]))
    refine Goes.go (fun _ k => XS.iconst X43.here hx rfl (hb hby at_76) k) ?_
    show Goes p e below s _ _ _ (T43.setTop (mkF m 77 #[.val (.int p0), .val (.int p1), .val (.int p2), .val (.int p3), .val (.int p4), .val (.int (3 : Int32)), .val (.int z1_s0), .val (.ref b38), .unset] [(.int (2 : Int32)), (.ref b38)]))
    refine Goes.go (fun _ k => XS.iconst X43.here hx rfl (hb hby at_77) k) ?_
    show Goes p e below s _ _ _ (T43.setTop (mkF m 78 #[.val (.int p0), .val (.int p1), .val (.int p2), .val (.int p3), .val (.int p4), .val (.int (3 : Int32)), .val (.int z1_s0), .val (.ref b38), .unset] [(.int (2 : Int32)), (.int (2 : Int32)), (.ref b38)]))
    refine Goes.go (fun _ k => XS.iload X43.here hx rfl (hb hby at_78) rfl  k) ?_
    show Goes p e below s _ _ _ (T43.setTop (mkF m 80 #[.val (.int p0), .val (.int p1), .val (.int p2), .val (.int p3), .val (.int p4), .val (.int (3 : Int32)), .val (.int z1_s0), .val (.ref b38), .unset] [(.int (3 : Int32)), (.int (2 : Int32)), (.int (2 : Int32)), (.ref b38)]))
    refine Goes.go (fun _ k => XS.iload X43.here hx rfl (hb hby at_80) rfl  k) ?_
    show Goes p e below s _ _ _ (T43.setTop (mkF m 82 #[.val (.int p0), .val (.int p1), .val (.int p2), .val (.int p3), .val (.int p4), .val (.int (3 : Int32)), .val (.int z1_s0), .val (.ref b38), .unset] [(.int z1_s0), (.int (3 : Int32)), (.int (2 : Int32)), (.int (2 : Int32)), (.ref b38)]))
    refine Goes.go (fun _ k => XS.iloadN X43.here hx rfl (hb hby at_82) rfl  k) ?_
    show Goes p e below s _ _ _ (T43.setTop (mkF m 83 #[.val (.int p0), .val (.int p1), .val (.int p2), .val (.int p3), .val (.int p4), .val (.int (3 : Int32)), .val (.int z1_s0), .val (.ref b38), .unset] [(.int p1), (.int z1_s0), (.int (3 : Int32)), (.int (2 : Int32)), (.int (2 : Int32)), (.ref b38)]))
    refine Goes.go (fun _ k => XS.iloadN X43.here hx rfl (hb hby at_83) rfl  k) ?_
    show Goes p e below s _ _ _ (T43.setTop (mkF m 84 #[.val (.int p0), .val (.int p1), .val (.int p2), .val (.int p3), .val (.int p4), .val (.int (3 : Int32)), .val (.int z1_s0), .val (.ref b38), .unset] [(.int p2), (.int p1), (.int z1_s0), (.int (3 : Int32)), (.int (2 : Int32)), (.int (2 : Int32)), (.ref b38)]))
    refine Goes.go (fun _ k => XS.iloadN X43.here hx rfl (hb hby at_84) rfl  k) ?_
    show Goes p e below s _ _ _ (T43.setTop (mkF m 85 #[.val (.int p0), .val (.int p1), .val (.int p2), .val (.int p3), .val (.int p4), .val (.int (3 : Int32)), .val (.int z1_s0), .val (.ref b38), .unset] [(.int p3), (.int p2), (.int p1), (.int z1_s0), (.int (3 : Int32)), (.int (2 : Int32)), (.int (2 : Int32)), (.ref b38)]))
    refine Goes.go (fun _ k => XS.iload X43.here hx rfl (hb hby at_85) rfl  k) ?_
    show Goes p e below s _ _ _ (T43.setTop (mkF m 87 #[.val (.int p0), .val (.int p1), .val (.int p2), .val (.int p3), .val (.int p4), .val (.int (3 : Int32)), .val (.int z1_s0), .val (.ref b38), .unset] [(.int p4), (.int p3), (.int p2), (.int p1), (.int z1_s0), (.int (3 : Int32)), (.int (2 : Int32)), (.int (2 : Int32)), (.ref b38)]))
    obtain ⟨_, _, ⟨T45, L45, k45, n45⟩, -, X45, ⟨Lc45, hQ45, l45, y45, z45⟩, st45⟩ := Jvm.LawKit.callS X43 hx (y := (⟨"org/cardprobe/CheckCharacterWithWrongCheckPinLaw", "orig", "(IIZIIII)B"⟩ : MethodName)) hown (mvT hZ (hw _ (List.mem_of_getElem? (i := 1) rfl))) (mvT hZ (hw _ (List.mem_of_getElem? (i := 2) rfl))) (mvT hZ (hw _ (List.mem_of_getElem? (i := 3) rfl))) (mvT hZ (hw _ (List.mem_of_getElem? (i := 4) rfl))) (by decide) (backOf (W := 2) (rm1 l Z a0 hw [] (2 : Int32) (3 : Int32) z1_s0 p1 p2 p3 p4 h43 n0 Z43 ) hZ (hw _ (List.mem_of_getElem? (i := 4) rfl)) (hw _ (List.mem_of_getElem? (i := 3) rfl)) (by decide) (by decide)) (g := (mkF m 87 #[.val (.int p0), .val (.int p1), .val (.int p2), .val (.int p3), .val (.int p4), .val (.int (3 : Int32)), .val (.int z1_s0), .val (.ref b38), .unset] [(.int p4), (.int p3), (.int p2), (.int p1), (.int z1_s0), (.int (3 : Int32)), (.int (2 : Int32)), (.int (2 : Int32)), (.ref b38)])) rfl (by rw [hml]; rfl) (argsL := [(.int (2 : Int32)), (.int (3 : Int32)), (.int z1_s0), (.int p1), (.int p2), (.int p3), (.int p4)]) (rest := [(.int (2 : Int32)), (.ref b38)]) (lenOf pd_1 rfl) rfl (by show 2 * 0 + _ ≤ _; exact Nat.le_of_eq rfl) (hb hby at_87) (fun _ _ => ⟨rfl, e43, (by decide : 1 + 0 ≤ _), (by decide : 3 + 0 ≤ _)⟩)
    dsimp only [Pt.U, Pt.locs, Pt.cells, Pt.slots] at X45 l45 y45 z45 st45 hQ45
    subst l45 y45 z45
    obtain ⟨rfl, N45q, e45⟩ := hQ45
    have N45 := Fr.app N43 N45q
    refine Goes.go st45 ?_
    show Goes p e below s _ _ _ (T45.setTop (mkF m 90 #[.val (.int p0), .val (.int p1), .val (.int p2), .val (.int p3), .val (.int p4), .val (.int (3 : Int32)), .val (.int z1_s0), .val (.ref b38), .unset] [(.int (f1 (2 : Int32) (3 : Int32) z1_s0 p1 p2 p3 p4)), (.int (2 : Int32)), (.ref b38)]))
    obtain ⟨T46, h46, X46, e46, W46, A46, st46⟩ := own_stB X45 hx hZ e45 A43 (i := 2) rfl (by decide) (g := (mkF m 90 #[.val (.int p0), .val (.int p1), .val (.int p2), .val (.int p3), .val (.int p4), .val (.int (3 : Int32)), .val (.int z1_s0), .val (.ref b38), .unset] [(.int (f1 (2 : Int32) (3 : Int32) z1_s0 p1 p2 p3 p4)), (.int (2 : Int32)), (.ref b38)])) rfl rfl (hb hby at_90)
    have N46 := Fr.snoc X46 N45 gb38
    have Z46 := Nat.le_trans Z43 (Keep.of_wr W46).1
    have K46 := Keep.wr K43 W46 (Or.inr sb38)
    refine Goes.go st46 ?_
    show Goes p e below s _ _ _ (T46.setTop (mkF m 91 #[.val (.int p0), .val (.int p1), .val (.int p2), .val (.int p3), .val (.int p4), .val (.int (3 : Int32)), .val (.int z1_s0), .val (.ref b38), .unset] []))
    refine Goes.go (fun _ k => XS.iload X46.here hx rfl (hb hby at_91) rfl  k) ?_
    show Goes p e below s _ _ _ (T46.setTop (mkF m 93 #[.val (.int p0), .val (.int p1), .val (.int p2), .val (.int p3), .val (.int p4), .val (.int (3 : Int32)), .val (.int z1_s0), .val (.ref b38), .unset] [(.int (3 : Int32))]))
    refine Goes.go (fun _ k => XS.iconst X46.here hx rfl (hb hby at_93) k) ?_
    show Goes p e below s _ _ _ (T46.setTop (mkF m 94 #[.val (.int p0), .val (.int p1), .val (.int p2), .val (.int p3), .val (.int p4), .val (.int (3 : Int32)), .val (.int z1_s0), .val (.ref b38), .unset] [(.int (3 : Int32)), (.int (3 : Int32))]))
    have hc94_47 : ¬ ((3 : Int32) < (3 : Int32)) := (by decide)
    refine Goes.go (fun _ k => XS.icmpYes X46.here hx rfl (pc0 := 94) (pc' := 114) rfl (hb hby at_94) rfl (flt hc94_47).2.2.2 (by decide) (by decide) k) ?_
    show Goes p e below s _ _ _ (T46.setTop (mkF m 114 #[.val (.int p0), .val (.int p1), .val (.int p2), .val (.int p3), .val (.int p4), .val (.int (3 : Int32)), .val (.int z1_s0), .val (.ref b38), .unset] []))
    refine Goes.go (fun _ k => XS.aload X46.here hx rfl (hb hby at_114) rfl rfl  k) ?_
    show Goes p e below s _ _ _ (T46.setTop (mkF m 116 #[.val (.int p0), .val (.int p1), .val (.int p2), .val (.int p3), .val (.int p4), .val (.int (3 : Int32)), .val (.int z1_s0), .val (.ref b38), .unset] [(.ref b38)]))
    obtain ⟨_, _, ⟨T48, L48, k48, n48⟩, -, X48, ⟨Lc48, hQ48, l48, y48, z48⟩, st48⟩ := Jvm.LawKit.callS X46 hx (y := (⟨"org/cardprobe/CheckCharacter", "withWrongCheck", "([B)[B"⟩ : MethodName)) hown (mvT hZ (hw _ (List.mem_of_getElem? (i := 8) rfl))) (mvT hZ (hw _ (List.mem_of_getElem? (i := 9) rfl))) (mvT hZ (hw _ (List.mem_of_getElem? (i := 10) rfl))) (mvT hZ (hw _ (List.mem_of_getElem? (i := 11) rfl))) (by decide) (backOf (W := 0) (rm3 l Z a0 hw [] b38 3 (own_upd (own_upd (own_upd (fun _ => 0) 0 (nar .byte (f1 (0 : Int32) (3 : Int32) z1_s0 p1 p2 p3 p4))) 1 (nar .byte (f1 (1 : Int32) (3 : Int32) z1_s0 p1 p2 p3 p4))) 2 (nar .byte (f1 (2 : Int32) (3 : Int32) z1_s0 p1 p2 p3 p4))) h46 n0 Z46 A46 (((EA38.wr W40).wr W43).wr W46) (by decide) (by decide)) hZ (hw _ (List.mem_of_getElem? (i := 11) rfl)) (hw _ (List.mem_of_getElem? (i := 10) rfl)) (by decide) (by decide)) (g := (mkF m 116 #[.val (.int p0), .val (.int p1), .val (.int p2), .val (.int p3), .val (.int p4), .val (.int (3 : Int32)), .val (.int z1_s0), .val (.ref b38), .unset] [(.ref b38)])) rfl (by rw [hml]; rfl) (argsL := [(.ref b38)]) (rest := []) (lenOf pd_2 rfl) rfl (by show 2 * 0 + _ ≤ _; exact Nat.le_of_eq rfl) (hb hby at_116) (fun _ _ => ⟨rfl, e46, (by decide : 1 + 1 ≤ _), (by decide : 3 + 4 ≤ _)⟩)
    dsimp only [Pt.U, Pt.locs, Pt.cells, Pt.slots] at X48 l48 y48 z48 st48 hQ48
    subst l48 y48 z48
    obtain ⟨h48, e48⟩ : ∃ z, T48.heap = z := ⟨_, rfl⟩
    rw [e48] at hQ48
    obtain ⟨c48_mw, sb_c48_mw, rfl, N48q, Kq48, G48_0⟩ := hQ48
    have N48 := Fr.app N46 N48q
    have gb_c48_mw : n0 ≤ c48_mw := Nat.le_trans Z46 sb_c48_mw
    have sh_c48_mw : h0.size ≤ c48_mw := Nat.le_trans K46.1 sb_c48_mw
    have K48 := Keep.trans K46 Kq48 all0
    have Z48 := Nat.le_trans Z46 Kq48.1
    refine Goes.go st48 ?_
    show Goes p e below s _ _ _ (T48.setTop (mkF m 119 #[.val (.int p0), .val (.int p1), .val (.int p2), .val (.int p3), .val (.int p4), .val (.int (3 : Int32)), .val (.int z1_s0), .val (.ref b38), .unset] [(.ref c48_mw)]))
    refine Goes.go (fun _ k => XS.astore X48.here hx rfl (hb hby at_119) rfl rfl (l' := #[.val (.int p0), .val (.int p1), .val (.int p2), .val (.int p3), .val (.int p4), .val (.int (3 : Int32)), .val (.int z1_s0), .val (.ref b38), .val (.ref c48_mw)]) rfl k) ?_
    show Goes p e below s _ _ _ (T48.setTop (mkF m 121 #[.val (.int p0), .val (.int p1), .val (.int p2), .val (.int p3), .val (.int p4), .val (.int (3 : Int32)), .val (.int z1_s0), .val (.ref b38), .val (.ref c48_mw)] []))
    refine Goes.go (fun _ k => XS.aload X48.here hx rfl (hb hby at_121) rfl rfl  k) ?_
    show Goes p e below s _ _ _ (T48.setTop (mkF m 123 #[.val (.int p0), .val (.int p1), .val (.int p2), .val (.int p3), .val (.int p4), .val (.int (3 : Int32)), .val (.int z1_s0), .val (.ref b38), .val (.ref c48_mw)] [(.ref c48_mw)]))
    refine Goes.go (fun _ k => XS.aload X48.here hx rfl (hb hby at_123) rfl rfl  k) ?_
    show Goes p e below s _ _ _ (T48.setTop (mkF m 125 #[.val (.int p0), .val (.int p1), .val (.int p2), .val (.int p3), .val (.int p4), .val (.int (3 : Int32)), .val (.int z1_s0), .val (.ref b38), .val (.ref c48_mw)] [(.ref b38), (.ref c48_mw)]))
    refine Goes.go (fun _ k => Jvm.RoadKit.acmp (g := (mkF m 125 #[.val (.int p0), .val (.int p1), .val (.int p2), .val (.int p3), .val (.int p4), .val (.int (3 : Int32)), .val (.int z1_s0), .val (.ref b38), .val (.ref c48_mw)] [(.ref b38), (.ref c48_mw)])) X48 hx rfl rfl rfl (pc0 := 125) (pc' := 130) (same := false) rfl (hb hby at_125) rfl (decide_eq_false fun q => (Ne.symm (Nat.ne_of_lt (Nat.lt_of_lt_of_le A46.lt sb_c48_mw))) (Value.ref.inj q)) (by decide) (by decide) k) ?_
    show Goes p e below s _ _ _ (T48.setTop (mkF m 130 #[.val (.int p0), .val (.int p1), .val (.int p2), .val (.int p3), .val (.int p4), .val (.int (3 : Int32)), .val (.int z1_s0), .val (.ref b38), .val (.ref c48_mw)] []))
    refine Goes.go (fun _ k => XS.aload X48.here hx rfl (hb hby at_130) rfl rfl  k) ?_
    show Goes p e below s _ _ _ (T48.setTop (mkF m 132 #[.val (.int p0), .val (.int p1), .val (.int p2), .val (.int p3), .val (.int p4), .val (.int (3 : Int32)), .val (.int z1_s0), .val (.ref b38), .val (.ref c48_mw)] [(.ref c48_mw)]))
    refine Goes.go (own_len X48 hx hZ e48 G48_0 (g := (mkF m 132 #[.val (.int p0), .val (.int p1), .val (.int p2), .val (.int p3), .val (.int p4), .val (.int (3 : Int32)), .val (.int z1_s0), .val (.ref b38), .val (.ref c48_mw)] [(.ref c48_mw)])) rfl rfl (hb hby at_132)) ?_
    show Goes p e below s _ _ _ (T48.setTop (mkF m 133 #[.val (.int p0), .val (.int p1), .val (.int p2), .val (.int p3), .val (.int p4), .val (.int (3 : Int32)), .val (.int z1_s0), .val (.ref b38), .val (.ref c48_mw)] [(.int (3 : Int32))]))
    refine Goes.go (fun _ k => XS.iload X48.here hx rfl (hb hby at_133) rfl  k) ?_
    show Goes p e below s _ _ _ (T48.setTop (mkF m 135 #[.val (.int p0), .val (.int p1), .val (.int p2), .val (.int p3), .val (.int p4), .val (.int (3 : Int32)), .val (.int z1_s0), .val (.ref b38), .val (.ref c48_mw)] [(.int (3 : Int32)), (.int (3 : Int32))]))
    have hc135_50 : (3 : Int32) = (3 : Int32) := (by decide)
    refine Goes.go (fun _ k => XS.icmpYes X48.here hx rfl (pc0 := 135) (pc' := 140) rfl (hb hby at_135) rfl (teq hc135_50).1 (by decide) (by decide) k) ?_
    show Goes p e below s _ _ _ (T48.setTop (mkF m 140 #[.val (.int p0), .val (.int p1), .val (.int p2), .val (.int p3), .val (.int p4), .val (.int (3 : Int32)), .val (.int z1_s0), .val (.ref b38), .val (.ref c48_mw)] []))
    refine Goes.go (fun _ k => XS.iconst X48.here hx rfl (hb hby at_140) k) ?_
    show Goes p e below s _ _ _ (T48.setTop (mkF m 141 #[.val (.int p0), .val (.int p1), .val (.int p2), .val (.int p3), .val (.int p4), .val (.int (3 : Int32)), .val (.int z1_s0), .val (.ref b38), .val (.ref c48_mw)] [(.int (0 : Int32))]))
    refine Goes.go (fun _ k => XS.iload X48.here hx rfl (hb hby at_141) rfl  k) ?_
    show Goes p e below s _ _ _ (T48.setTop (mkF m 143 #[.val (.int p0), .val (.int p1), .val (.int p2), .val (.int p3), .val (.int p4), .val (.int (3 : Int32)), .val (.int z1_s0), .val (.ref b38), .val (.ref c48_mw)] [(.int (3 : Int32)), (.int (0 : Int32))]))
    refine Goes.go (fun _ k => XS.iload X48.here hx rfl (hb hby at_143) rfl  k) ?_
    show Goes p e below s _ _ _ (T48.setTop (mkF m 145 #[.val (.int p0), .val (.int p1), .val (.int p2), .val (.int p3), .val (.int p4), .val (.int (3 : Int32)), .val (.int z1_s0), .val (.ref b38), .val (.ref c48_mw)] [(.int z1_s0), (.int (3 : Int32)), (.int (0 : Int32))]))
    refine Goes.go (fun _ k => XS.aload X48.here hx rfl (hb hby at_145) rfl rfl  k) ?_
    show Goes p e below s _ _ _ (T48.setTop (mkF m 147 #[.val (.int p0), .val (.int p1), .val (.int p2), .val (.int p3), .val (.int p4), .val (.int (3 : Int32)), .val (.int z1_s0), .val (.ref b38), .val (.ref c48_mw)] [(.ref b38), (.int z1_s0), (.int (3 : Int32)), (.int (0 : Int32))]))
    refine Goes.go (fun _ k => XS.aload X48.here hx rfl (hb hby at_147) rfl rfl  k) ?_
    show Goes p e below s _ _ _ (T48.setTop (mkF m 149 #[.val (.int p0), .val (.int p1), .val (.int p2), .val (.int p3), .val (.int p4), .val (.int (3 : Int32)), .val (.int z1_s0), .val (.ref b38), .val (.ref c48_mw)] [(.ref c48_mw), (.ref b38), (.int z1_s0), (.int (3 : Int32)), (.int (0 : Int32))]))
    refine Goes.go (fun _ k => XS.iloadN X48.here hx rfl (hb hby at_149) rfl  k) ?_
    show Goes p e below s _ _ _ (T48.setTop (mkF m 150 #[.val (.int p0), .val (.int p1), .val (.int p2), .val (.int p3), .val (.int p4), .val (.int (3 : Int32)), .val (.int z1_s0), .val (.ref b38), .val (.ref c48_mw)] [(.int p1), (.ref c48_mw), (.ref b38), (.int z1_s0), (.int (3 : Int32)), (.int (0 : Int32))]))
    refine Goes.go (fun _ k => XS.iloadN X48.here hx rfl (hb hby at_150) rfl  k) ?_
    show Goes p e below s _ _ _ (T48.setTop (mkF m 151 #[.val (.int p0), .val (.int p1), .val (.int p2), .val (.int p3), .val (.int p4), .val (.int (3 : Int32)), .val (.int z1_s0), .val (.ref b38), .val (.ref c48_mw)] [(.int p2), (.int p1), (.ref c48_mw), (.ref b38), (.int z1_s0), (.int (3 : Int32)), (.int (0 : Int32))]))
    refine Goes.go (fun _ k => XS.iloadN X48.here hx rfl (hb hby at_151) rfl  k) ?_
    show Goes p e below s _ _ _ (T48.setTop (mkF m 152 #[.val (.int p0), .val (.int p1), .val (.int p2), .val (.int p3), .val (.int p4), .val (.int (3 : Int32)), .val (.int z1_s0), .val (.ref b38), .val (.ref c48_mw)] [(.int p3), (.int p2), (.int p1), (.ref c48_mw), (.ref b38), (.int z1_s0), (.int (3 : Int32)), (.int (0 : Int32))]))
    refine Goes.go (fun _ k => XS.iload X48.here hx rfl (hb hby at_152) rfl  k) ?_
    show Goes p e below s _ _ _ (T48.setTop (mkF m 154 #[.val (.int p0), .val (.int p1), .val (.int p2), .val (.int p3), .val (.int p4), .val (.int (3 : Int32)), .val (.int z1_s0), .val (.ref b38), .val (.ref c48_mw)] [(.int p4), (.int p3), (.int p2), (.int p1), (.ref c48_mw), (.ref b38), (.int z1_s0), (.int (3 : Int32)), (.int (0 : Int32))]))
    obtain ⟨_, _, ⟨T51, L51, k51, n51⟩, -, X51, ⟨Lc51, hQ51, l51, y51, z51⟩, st51⟩ := Jvm.LawKit.callS X48 hx (y := (⟨"org/cardprobe/CheckCharacterWithWrongCheckPinLaw", "slotOk", "(IIZ[B[BIIII)Z"⟩ : MethodName)) hown (mvT hZ (hw _ (List.mem_of_getElem? (i := 21) rfl))) (mvT hZ (hw _ (List.mem_of_getElem? (i := 22) rfl))) (mvT hZ (hw _ (List.mem_of_getElem? (i := 3) rfl))) (mvT hZ (hw _ (List.mem_of_getElem? (i := 23) rfl))) (by decide) (backOf (W := 0) (rm4 l Z a0 hw [] (0 : Int32) (3 : Int32) z1_s0 b38 c48_mw p1 p2 p3 p4 3 (own_upd (own_upd (own_upd (fun _ => 0) 0 (nar .byte (f1 (0 : Int32) (3 : Int32) z1_s0 p1 p2 p3 p4))) 1 (nar .byte (f1 (1 : Int32) (3 : Int32) z1_s0 p1 p2 p3 p4))) 2 (nar .byte (f1 (2 : Int32) (3 : Int32) z1_s0 p1 p2 p3 p4))) 3 (own_upd (own_upd (own_upd (own_upd (fun _ => 0) 0 (nar .byte (f1 (0 : Int32) (3 : Int32) z1_s0 p1 p2 p3 p4))) 1 (nar .byte (f1 (1 : Int32) (3 : Int32) z1_s0 p1 p2 p3 p4))) 2 (nar .byte (f1 (2 : Int32) (3 : Int32) z1_s0 p1 p2 p3 p4))) (3 - 1) (nar .byte ((if ((own_upd (own_upd (own_upd (fun _ => 0) 0 (nar .byte (f1 (0 : Int32) (3 : Int32) z1_s0 p1 p2 p3 p4))) 1 (nar .byte (f1 (1 : Int32) (3 : Int32) z1_s0 p1 p2 p3 p4))) 2 (nar .byte (f1 (2 : Int32) (3 : Int32) z1_s0 p1 p2 p3 p4))) (3 - 1)) = (0 : Int32) then (255 : Int32) else (0 : Int32)).toInt8.toInt32))) 0 h48 n0 Z48 (A46.keep Kq48 nin0) G48_0 rfl rfl rfl (by decide)) hZ (hw _ (List.mem_of_getElem? (i := 23) rfl)) (hw _ (List.mem_of_getElem? (i := 3) rfl)) (by decide) (by decide)) (g := (mkF m 154 #[.val (.int p0), .val (.int p1), .val (.int p2), .val (.int p3), .val (.int p4), .val (.int (3 : Int32)), .val (.int z1_s0), .val (.ref b38), .val (.ref c48_mw)] [(.int p4), (.int p3), (.int p2), (.int p1), (.ref c48_mw), (.ref b38), (.int z1_s0), (.int (3 : Int32)), (.int (0 : Int32))])) rfl (by rw [hml]; rfl) (argsL := [(.int (0 : Int32)), (.int (3 : Int32)), (.int z1_s0), (.ref b38), (.ref c48_mw), (.int p1), (.int p2), (.int p3), (.int p4)]) (rest := []) (lenOf pd_3 rfl) rfl (by show 2 * 0 + _ ≤ _; exact Nat.le_of_eq rfl) (hb hby at_154) (fun _ _ => ⟨rfl, e48, (by decide : 2 + 0 ≤ _), (by decide : 7 + 0 ≤ _)⟩)
    dsimp only [Pt.U, Pt.locs, Pt.cells, Pt.slots] at X51 l51 y51 z51 st51 hQ51
    subst l51 y51 z51
    obtain ⟨rfl, N51q, e51⟩ := hQ51
    have N51 := Fr.app N48 N51q
    refine Goes.go st51 ?_
    show Goes p e below s _ _ _ (T51.setTop (mkF m 157 #[.val (.int p0), .val (.int p1), .val (.int p2), .val (.int p3), .val (.int p4), .val (.int (3 : Int32)), .val (.int z1_s0), .val (.ref b38), .val (.ref c48_mw)] [(.int (f4 (0 : Int32) (3 : Int32) z1_s0 b38 c48_mw p1 p2 p3 p4 3 (own_upd (own_upd (own_upd (fun _ => 0) 0 (nar .byte (f1 (0 : Int32) (3 : Int32) z1_s0 p1 p2 p3 p4))) 1 (nar .byte (f1 (1 : Int32) (3 : Int32) z1_s0 p1 p2 p3 p4))) 2 (nar .byte (f1 (2 : Int32) (3 : Int32) z1_s0 p1 p2 p3 p4))) 3 (own_upd (own_upd (own_upd (own_upd (fun _ => 0) 0 (nar .byte (f1 (0 : Int32) (3 : Int32) z1_s0 p1 p2 p3 p4))) 1 (nar .byte (f1 (1 : Int32) (3 : Int32) z1_s0 p1 p2 p3 p4))) 2 (nar .byte (f1 (2 : Int32) (3 : Int32) z1_s0 p1 p2 p3 p4))) (3 - 1) (nar .byte ((if ((own_upd (own_upd (own_upd (fun _ => 0) 0 (nar .byte (f1 (0 : Int32) (3 : Int32) z1_s0 p1 p2 p3 p4))) 1 (nar .byte (f1 (1 : Int32) (3 : Int32) z1_s0 p1 p2 p3 p4))) 2 (nar .byte (f1 (2 : Int32) (3 : Int32) z1_s0 p1 p2 p3 p4))) (3 - 1)) = (0 : Int32) then (255 : Int32) else (0 : Int32)).toInt8.toInt32))) 0))]))
    have hc157_52 : ¬ ((f4 (0 : Int32) (3 : Int32) z1_s0 b38 c48_mw p1 p2 p3 p4 3 (own_upd (own_upd (own_upd (fun _ => 0) 0 (nar .byte (f1 (0 : Int32) (3 : Int32) z1_s0 p1 p2 p3 p4))) 1 (nar .byte (f1 (1 : Int32) (3 : Int32) z1_s0 p1 p2 p3 p4))) 2 (nar .byte (f1 (2 : Int32) (3 : Int32) z1_s0 p1 p2 p3 p4))) 3 (own_upd (own_upd (own_upd (own_upd (fun _ => 0) 0 (nar .byte (f1 (0 : Int32) (3 : Int32) z1_s0 p1 p2 p3 p4))) 1 (nar .byte (f1 (1 : Int32) (3 : Int32) z1_s0 p1 p2 p3 p4))) 2 (nar .byte (f1 (2 : Int32) (3 : Int32) z1_s0 p1 p2 p3 p4))) (3 - 1) (nar .byte ((if ((own_upd (own_upd (own_upd (fun _ => 0) 0 (nar .byte (f1 (0 : Int32) (3 : Int32) z1_s0 p1 p2 p3 p4))) 1 (nar .byte (f1 (1 : Int32) (3 : Int32) z1_s0 p1 p2 p3 p4))) 2 (nar .byte (f1 (2 : Int32) (3 : Int32) z1_s0 p1 p2 p3 p4))) (3 - 1)) = (0 : Int32) then (255 : Int32) else (0 : Int32)).toInt8.toInt32))) 0) = (0 : Int32)) := own_near (by decide) (by decide) (own_f1b _ _ _ _ _ _ _) (own_f1b _ _ _ _ _ _ _)
    refine Goes.go (fun _ k => XS.ifNo X51.here hx rfl (hb hby at_157) rfl ((if0 _ _).trans (feq hc157_52).1) k) ?_
    show Goes p e below s _ _ _ (T51.setTop (mkF m 160 #[.val (.int p0), .val (.int p1), .val (.int p2), .val (.int p3), .val (.int p4), .val (.int (3 : Int32)), .val (.int z1_s0), .val (.ref b38), .val (.ref c48_mw)] []))
    refine Goes.go (fun _ k => XS.iconst X51.here hx rfl (hb hby at_160) k) ?_
    show Goes p e below s _ _ _ (T51.setTop (mkF m 161 #[.val (.int p0), .val (.int p1), .val (.int p2), .val (.int p3), .val (.int p4), .val (.int (3 : Int32)), .val (.int z1_s0), .val (.ref b38), .val (.ref c48_mw)] [(.int (1 : Int32))]))
    refine Goes.go (fun _ k => XS.iload X51.here hx rfl (hb hby at_161) rfl  k) ?_
    show Goes p e below s _ _ _ (T51.setTop (mkF m 163 #[.val (.int p0), .val (.int p1), .val (.int p2), .val (.int p3), .val (.int p4), .val (.int (3 : Int32)), .val (.int z1_s0), .val (.ref b38), .val (.ref c48_mw)] [(.int (3 : Int32)), (.int (1 : Int32))]))
    refine Goes.go (fun _ k => XS.iload X51.here hx rfl (hb hby at_163) rfl  k) ?_
    show Goes p e below s _ _ _ (T51.setTop (mkF m 165 #[.val (.int p0), .val (.int p1), .val (.int p2), .val (.int p3), .val (.int p4), .val (.int (3 : Int32)), .val (.int z1_s0), .val (.ref b38), .val (.ref c48_mw)] [(.int z1_s0), (.int (3 : Int32)), (.int (1 : Int32))]))
    refine Goes.go (fun _ k => XS.aload X51.here hx rfl (hb hby at_165) rfl rfl  k) ?_
    show Goes p e below s _ _ _ (T51.setTop (mkF m 167 #[.val (.int p0), .val (.int p1), .val (.int p2), .val (.int p3), .val (.int p4), .val (.int (3 : Int32)), .val (.int z1_s0), .val (.ref b38), .val (.ref c48_mw)] [(.ref b38), (.int z1_s0), (.int (3 : Int32)), (.int (1 : Int32))]))
    refine Goes.go (fun _ k => XS.aload X51.here hx rfl (hb hby at_167) rfl rfl  k) ?_
    show Goes p e below s _ _ _ (T51.setTop (mkF m 169 #[.val (.int p0), .val (.int p1), .val (.int p2), .val (.int p3), .val (.int p4), .val (.int (3 : Int32)), .val (.int z1_s0), .val (.ref b38), .val (.ref c48_mw)] [(.ref c48_mw), (.ref b38), (.int z1_s0), (.int (3 : Int32)), (.int (1 : Int32))]))
    refine Goes.go (fun _ k => XS.iloadN X51.here hx rfl (hb hby at_169) rfl  k) ?_
    show Goes p e below s _ _ _ (T51.setTop (mkF m 170 #[.val (.int p0), .val (.int p1), .val (.int p2), .val (.int p3), .val (.int p4), .val (.int (3 : Int32)), .val (.int z1_s0), .val (.ref b38), .val (.ref c48_mw)] [(.int p1), (.ref c48_mw), (.ref b38), (.int z1_s0), (.int (3 : Int32)), (.int (1 : Int32))]))
    refine Goes.go (fun _ k => XS.iloadN X51.here hx rfl (hb hby at_170) rfl  k) ?_
    show Goes p e below s _ _ _ (T51.setTop (mkF m 171 #[.val (.int p0), .val (.int p1), .val (.int p2), .val (.int p3), .val (.int p4), .val (.int (3 : Int32)), .val (.int z1_s0), .val (.ref b38), .val (.ref c48_mw)] [(.int p2), (.int p1), (.ref c48_mw), (.ref b38), (.int z1_s0), (.int (3 : Int32)), (.int (1 : Int32))]))
    refine Goes.go (fun _ k => XS.iloadN X51.here hx rfl (hb hby at_171) rfl  k) ?_
    show Goes p e below s _ _ _ (T51.setTop (mkF m 172 #[.val (.int p0), .val (.int p1), .val (.int p2), .val (.int p3), .val (.int p4), .val (.int (3 : Int32)), .val (.int z1_s0), .val (.ref b38), .val (.ref c48_mw)] [(.int p3), (.int p2), (.int p1), (.ref c48_mw), (.ref b38), (.int z1_s0), (.int (3 : Int32)), (.int (1 : Int32))]))
    refine Goes.go (fun _ k => XS.iload X51.here hx rfl (hb hby at_172) rfl  k) ?_
    show Goes p e below s _ _ _ (T51.setTop (mkF m 174 #[.val (.int p0), .val (.int p1), .val (.int p2), .val (.int p3), .val (.int p4), .val (.int (3 : Int32)), .val (.int z1_s0), .val (.ref b38), .val (.ref c48_mw)] [(.int p4), (.int p3), (.int p2), (.int p1), (.ref c48_mw), (.ref b38), (.int z1_s0), (.int (3 : Int32)), (.int (1 : Int32))]))
    obtain ⟨_, _, ⟨T53, L53, k53, n53⟩, -, X53, ⟨Lc53, hQ53, l53, y53, z53⟩, st53⟩ := Jvm.LawKit.callS X51 hx (y := (⟨"org/cardprobe/CheckCharacterWithWrongCheckPinLaw", "slotOk", "(IIZ[B[BIIII)Z"⟩ : MethodName)) hown (mvT hZ (hw _ (List.mem_of_getElem? (i := 21) rfl))) (mvT hZ (hw _ (List.mem_of_getElem? (i := 22) rfl))) (mvT hZ (hw _ (List.mem_of_getElem? (i := 3) rfl))) (mvT hZ (hw _ (List.mem_of_getElem? (i := 23) rfl))) (by decide) (backOf (W := 0) (rm4 l Z a0 hw [] (1 : Int32) (3 : Int32) z1_s0 b38 c48_mw p1 p2 p3 p4 3 (own_upd (own_upd (own_upd (fun _ => 0) 0 (nar .byte (f1 (0 : Int32) (3 : Int32) z1_s0 p1 p2 p3 p4))) 1 (nar .byte (f1 (1 : Int32) (3 : Int32) z1_s0 p1 p2 p3 p4))) 2 (nar .byte (f1 (2 : Int32) (3 : Int32) z1_s0 p1 p2 p3 p4))) 3 (own_upd (own_upd (own_upd (own_upd (fun _ => 0) 0 (nar .byte (f1 (0 : Int32) (3 : Int32) z1_s0 p1 p2 p3 p4))) 1 (nar .byte (f1 (1 : Int32) (3 : Int32) z1_s0 p1 p2 p3 p4))) 2 (nar .byte (f1 (2 : Int32) (3 : Int32) z1_s0 p1 p2 p3 p4))) (3 - 1) (nar .byte ((if ((own_upd (own_upd (own_upd (fun _ => 0) 0 (nar .byte (f1 (0 : Int32) (3 : Int32) z1_s0 p1 p2 p3 p4))) 1 (nar .byte (f1 (1 : Int32) (3 : Int32) z1_s0 p1 p2 p3 p4))) 2 (nar .byte (f1 (2 : Int32) (3 : Int32) z1_s0 p1 p2 p3 p4))) (3 - 1)) = (0 : Int32) then (255 : Int32) else (0 : Int32)).toInt8.toInt32))) 1 h48 n0 Z48 (A46.keep Kq48 nin0) G48_0 rfl rfl rfl (by decide)) hZ (hw _ (List.mem_of_getElem? (i := 23) rfl)) (hw _ (List.mem_of_getElem? (i := 3) rfl)) (by decide) (by decide)) (g := (mkF m 174 #[.val (.int p0), .val (.int p1), .val (.int p2), .val (.int p3), .val (.int p4), .val (.int (3 : Int32)), .val (.int z1_s0), .val (.ref b38), .val (.ref c48_mw)] [(.int p4), (.int p3), (.int p2), (.int p1), (.ref c48_mw), (.ref b38), (.int z1_s0), (.int (3 : Int32)), (.int (1 : Int32))])) rfl (by rw [hml]; rfl) (argsL := [(.int (1 : Int32)), (.int (3 : Int32)), (.int z1_s0), (.ref b38), (.ref c48_mw), (.int p1), (.int p2), (.int p3), (.int p4)]) (rest := []) (lenOf pd_3 rfl) rfl (by show 2 * 0 + _ ≤ _; exact Nat.le_of_eq rfl) (hb hby at_174) (fun _ _ => ⟨rfl, e51, (by decide : 2 + 0 ≤ _), (by decide : 7 + 0 ≤ _)⟩)
    dsimp only [Pt.U, Pt.locs, Pt.cells, Pt.slots] at X53 l53 y53 z53 st53 hQ53
    subst l53 y53 z53
    obtain ⟨rfl, N53q, e53⟩ := hQ53
    have N53 := Fr.app N51 N53q
    refine Goes.go st53 ?_
    show Goes p e below s _ _ _ (T53.setTop (mkF m 177 #[.val (.int p0), .val (.int p1), .val (.int p2), .val (.int p3), .val (.int p4), .val (.int (3 : Int32)), .val (.int z1_s0), .val (.ref b38), .val (.ref c48_mw)] [(.int (f4 (1 : Int32) (3 : Int32) z1_s0 b38 c48_mw p1 p2 p3 p4 3 (own_upd (own_upd (own_upd (fun _ => 0) 0 (nar .byte (f1 (0 : Int32) (3 : Int32) z1_s0 p1 p2 p3 p4))) 1 (nar .byte (f1 (1 : Int32) (3 : Int32) z1_s0 p1 p2 p3 p4))) 2 (nar .byte (f1 (2 : Int32) (3 : Int32) z1_s0 p1 p2 p3 p4))) 3 (own_upd (own_upd (own_upd (own_upd (fun _ => 0) 0 (nar .byte (f1 (0 : Int32) (3 : Int32) z1_s0 p1 p2 p3 p4))) 1 (nar .byte (f1 (1 : Int32) (3 : Int32) z1_s0 p1 p2 p3 p4))) 2 (nar .byte (f1 (2 : Int32) (3 : Int32) z1_s0 p1 p2 p3 p4))) (3 - 1) (nar .byte ((if ((own_upd (own_upd (own_upd (fun _ => 0) 0 (nar .byte (f1 (0 : Int32) (3 : Int32) z1_s0 p1 p2 p3 p4))) 1 (nar .byte (f1 (1 : Int32) (3 : Int32) z1_s0 p1 p2 p3 p4))) 2 (nar .byte (f1 (2 : Int32) (3 : Int32) z1_s0 p1 p2 p3 p4))) (3 - 1)) = (0 : Int32) then (255 : Int32) else (0 : Int32)).toInt8.toInt32))) 1))]))
    have hc177_54 : ¬ ((f4 (1 : Int32) (3 : Int32) z1_s0 b38 c48_mw p1 p2 p3 p4 3 (own_upd (own_upd (own_upd (fun _ => 0) 0 (nar .byte (f1 (0 : Int32) (3 : Int32) z1_s0 p1 p2 p3 p4))) 1 (nar .byte (f1 (1 : Int32) (3 : Int32) z1_s0 p1 p2 p3 p4))) 2 (nar .byte (f1 (2 : Int32) (3 : Int32) z1_s0 p1 p2 p3 p4))) 3 (own_upd (own_upd (own_upd (own_upd (fun _ => 0) 0 (nar .byte (f1 (0 : Int32) (3 : Int32) z1_s0 p1 p2 p3 p4))) 1 (nar .byte (f1 (1 : Int32) (3 : Int32) z1_s0 p1 p2 p3 p4))) 2 (nar .byte (f1 (2 : Int32) (3 : Int32) z1_s0 p1 p2 p3 p4))) (3 - 1) (nar .byte ((if ((own_upd (own_upd (own_upd (fun _ => 0) 0 (nar .byte (f1 (0 : Int32) (3 : Int32) z1_s0 p1 p2 p3 p4))) 1 (nar .byte (f1 (1 : Int32) (3 : Int32) z1_s0 p1 p2 p3 p4))) 2 (nar .byte (f1 (2 : Int32) (3 : Int32) z1_s0 p1 p2 p3 p4))) (3 - 1)) = (0 : Int32) then (255 : Int32) else (0 : Int32)).toInt8.toInt32))) 1) = (0 : Int32)) := own_near (by decide) (by decide) (own_f1b _ _ _ _ _ _ _) (own_f1b _ _ _ _ _ _ _)
    refine Goes.go (fun _ k => XS.ifNo X53.here hx rfl (hb hby at_177) rfl ((if0 _ _).trans (feq hc177_54).1) k) ?_
    show Goes p e below s _ _ _ (T53.setTop (mkF m 180 #[.val (.int p0), .val (.int p1), .val (.int p2), .val (.int p3), .val (.int p4), .val (.int (3 : Int32)), .val (.int z1_s0), .val (.ref b38), .val (.ref c48_mw)] []))
    refine Goes.go (fun _ k => XS.iconst X53.here hx rfl (hb hby at_180) k) ?_
    show Goes p e below s _ _ _ (T53.setTop (mkF m 181 #[.val (.int p0), .val (.int p1), .val (.int p2), .val (.int p3), .val (.int p4), .val (.int (3 : Int32)), .val (.int z1_s0), .val (.ref b38), .val (.ref c48_mw)] [(.int (2 : Int32))]))
    refine Goes.go (fun _ k => XS.iload X53.here hx rfl (hb hby at_181) rfl  k) ?_
    show Goes p e below s _ _ _ (T53.setTop (mkF m 183 #[.val (.int p0), .val (.int p1), .val (.int p2), .val (.int p3), .val (.int p4), .val (.int (3 : Int32)), .val (.int z1_s0), .val (.ref b38), .val (.ref c48_mw)] [(.int (3 : Int32)), (.int (2 : Int32))]))
    refine Goes.go (fun _ k => XS.iload X53.here hx rfl (hb hby at_183) rfl  k) ?_
    show Goes p e below s _ _ _ (T53.setTop (mkF m 185 #[.val (.int p0), .val (.int p1), .val (.int p2), .val (.int p3), .val (.int p4), .val (.int (3 : Int32)), .val (.int z1_s0), .val (.ref b38), .val (.ref c48_mw)] [(.int z1_s0), (.int (3 : Int32)), (.int (2 : Int32))]))
    refine Goes.go (fun _ k => XS.aload X53.here hx rfl (hb hby at_185) rfl rfl  k) ?_
    show Goes p e below s _ _ _ (T53.setTop (mkF m 187 #[.val (.int p0), .val (.int p1), .val (.int p2), .val (.int p3), .val (.int p4), .val (.int (3 : Int32)), .val (.int z1_s0), .val (.ref b38), .val (.ref c48_mw)] [(.ref b38), (.int z1_s0), (.int (3 : Int32)), (.int (2 : Int32))]))
    refine Goes.go (fun _ k => XS.aload X53.here hx rfl (hb hby at_187) rfl rfl  k) ?_
    show Goes p e below s _ _ _ (T53.setTop (mkF m 189 #[.val (.int p0), .val (.int p1), .val (.int p2), .val (.int p3), .val (.int p4), .val (.int (3 : Int32)), .val (.int z1_s0), .val (.ref b38), .val (.ref c48_mw)] [(.ref c48_mw), (.ref b38), (.int z1_s0), (.int (3 : Int32)), (.int (2 : Int32))]))
    refine Goes.go (fun _ k => XS.iloadN X53.here hx rfl (hb hby at_189) rfl  k) ?_
    show Goes p e below s _ _ _ (T53.setTop (mkF m 190 #[.val (.int p0), .val (.int p1), .val (.int p2), .val (.int p3), .val (.int p4), .val (.int (3 : Int32)), .val (.int z1_s0), .val (.ref b38), .val (.ref c48_mw)] [(.int p1), (.ref c48_mw), (.ref b38), (.int z1_s0), (.int (3 : Int32)), (.int (2 : Int32))]))
    refine Goes.go (fun _ k => XS.iloadN X53.here hx rfl (hb hby at_190) rfl  k) ?_
    show Goes p e below s _ _ _ (T53.setTop (mkF m 191 #[.val (.int p0), .val (.int p1), .val (.int p2), .val (.int p3), .val (.int p4), .val (.int (3 : Int32)), .val (.int z1_s0), .val (.ref b38), .val (.ref c48_mw)] [(.int p2), (.int p1), (.ref c48_mw), (.ref b38), (.int z1_s0), (.int (3 : Int32)), (.int (2 : Int32))]))
    refine Goes.go (fun _ k => XS.iloadN X53.here hx rfl (hb hby at_191) rfl  k) ?_
    show Goes p e below s _ _ _ (T53.setTop (mkF m 192 #[.val (.int p0), .val (.int p1), .val (.int p2), .val (.int p3), .val (.int p4), .val (.int (3 : Int32)), .val (.int z1_s0), .val (.ref b38), .val (.ref c48_mw)] [(.int p3), (.int p2), (.int p1), (.ref c48_mw), (.ref b38), (.int z1_s0), (.int (3 : Int32)), (.int (2 : Int32))]))
    refine Goes.go (fun _ k => XS.iload X53.here hx rfl (hb hby at_192) rfl  k) ?_
    show Goes p e below s _ _ _ (T53.setTop (mkF m 194 #[.val (.int p0), .val (.int p1), .val (.int p2), .val (.int p3), .val (.int p4), .val (.int (3 : Int32)), .val (.int z1_s0), .val (.ref b38), .val (.ref c48_mw)] [(.int p4), (.int p3), (.int p2), (.int p1), (.ref c48_mw), (.ref b38), (.int z1_s0), (.int (3 : Int32)), (.int (2 : Int32))]))
    obtain ⟨_, _, ⟨T55, L55, k55, n55⟩, -, X55, ⟨Lc55, hQ55, l55, y55, z55⟩, st55⟩ := Jvm.LawKit.callS X53 hx (y := (⟨"org/cardprobe/CheckCharacterWithWrongCheckPinLaw", "slotOk", "(IIZ[B[BIIII)Z"⟩ : MethodName)) hown (mvT hZ (hw _ (List.mem_of_getElem? (i := 21) rfl))) (mvT hZ (hw _ (List.mem_of_getElem? (i := 22) rfl))) (mvT hZ (hw _ (List.mem_of_getElem? (i := 3) rfl))) (mvT hZ (hw _ (List.mem_of_getElem? (i := 23) rfl))) (by decide) (backOf (W := 0) (rm4 l Z a0 hw [] (2 : Int32) (3 : Int32) z1_s0 b38 c48_mw p1 p2 p3 p4 3 (own_upd (own_upd (own_upd (fun _ => 0) 0 (nar .byte (f1 (0 : Int32) (3 : Int32) z1_s0 p1 p2 p3 p4))) 1 (nar .byte (f1 (1 : Int32) (3 : Int32) z1_s0 p1 p2 p3 p4))) 2 (nar .byte (f1 (2 : Int32) (3 : Int32) z1_s0 p1 p2 p3 p4))) 3 (own_upd (own_upd (own_upd (own_upd (fun _ => 0) 0 (nar .byte (f1 (0 : Int32) (3 : Int32) z1_s0 p1 p2 p3 p4))) 1 (nar .byte (f1 (1 : Int32) (3 : Int32) z1_s0 p1 p2 p3 p4))) 2 (nar .byte (f1 (2 : Int32) (3 : Int32) z1_s0 p1 p2 p3 p4))) (3 - 1) (nar .byte ((if ((own_upd (own_upd (own_upd (fun _ => 0) 0 (nar .byte (f1 (0 : Int32) (3 : Int32) z1_s0 p1 p2 p3 p4))) 1 (nar .byte (f1 (1 : Int32) (3 : Int32) z1_s0 p1 p2 p3 p4))) 2 (nar .byte (f1 (2 : Int32) (3 : Int32) z1_s0 p1 p2 p3 p4))) (3 - 1)) = (0 : Int32) then (255 : Int32) else (0 : Int32)).toInt8.toInt32))) 2 h48 n0 Z48 (A46.keep Kq48 nin0) G48_0 rfl rfl rfl (by decide)) hZ (hw _ (List.mem_of_getElem? (i := 23) rfl)) (hw _ (List.mem_of_getElem? (i := 3) rfl)) (by decide) (by decide)) (g := (mkF m 194 #[.val (.int p0), .val (.int p1), .val (.int p2), .val (.int p3), .val (.int p4), .val (.int (3 : Int32)), .val (.int z1_s0), .val (.ref b38), .val (.ref c48_mw)] [(.int p4), (.int p3), (.int p2), (.int p1), (.ref c48_mw), (.ref b38), (.int z1_s0), (.int (3 : Int32)), (.int (2 : Int32))])) rfl (by rw [hml]; rfl) (argsL := [(.int (2 : Int32)), (.int (3 : Int32)), (.int z1_s0), (.ref b38), (.ref c48_mw), (.int p1), (.int p2), (.int p3), (.int p4)]) (rest := []) (lenOf pd_3 rfl) rfl (by show 2 * 0 + _ ≤ _; exact Nat.le_of_eq rfl) (hb hby at_194) (fun _ _ => ⟨rfl, e53, (by decide : 2 + 0 ≤ _), (by decide : 7 + 0 ≤ _)⟩)
    dsimp only [Pt.U, Pt.locs, Pt.cells, Pt.slots] at X55 l55 y55 z55 st55 hQ55
    subst l55 y55 z55
    obtain ⟨rfl, N55q, e55⟩ := hQ55
    have N55 := Fr.app N53 N55q
    refine Goes.go st55 ?_
    show Goes p e below s _ _ _ (T55.setTop (mkF m 197 #[.val (.int p0), .val (.int p1), .val (.int p2), .val (.int p3), .val (.int p4), .val (.int (3 : Int32)), .val (.int z1_s0), .val (.ref b38), .val (.ref c48_mw)] [(.int (f4 (2 : Int32) (3 : Int32) z1_s0 b38 c48_mw p1 p2 p3 p4 3 (own_upd (own_upd (own_upd (fun _ => 0) 0 (nar .byte (f1 (0 : Int32) (3 : Int32) z1_s0 p1 p2 p3 p4))) 1 (nar .byte (f1 (1 : Int32) (3 : Int32) z1_s0 p1 p2 p3 p4))) 2 (nar .byte (f1 (2 : Int32) (3 : Int32) z1_s0 p1 p2 p3 p4))) 3 (own_upd (own_upd (own_upd (own_upd (fun _ => 0) 0 (nar .byte (f1 (0 : Int32) (3 : Int32) z1_s0 p1 p2 p3 p4))) 1 (nar .byte (f1 (1 : Int32) (3 : Int32) z1_s0 p1 p2 p3 p4))) 2 (nar .byte (f1 (2 : Int32) (3 : Int32) z1_s0 p1 p2 p3 p4))) (3 - 1) (nar .byte ((if ((own_upd (own_upd (own_upd (fun _ => 0) 0 (nar .byte (f1 (0 : Int32) (3 : Int32) z1_s0 p1 p2 p3 p4))) 1 (nar .byte (f1 (1 : Int32) (3 : Int32) z1_s0 p1 p2 p3 p4))) 2 (nar .byte (f1 (2 : Int32) (3 : Int32) z1_s0 p1 p2 p3 p4))) (3 - 1)) = (0 : Int32) then (255 : Int32) else (0 : Int32)).toInt8.toInt32))) 2))]))
    have hc197_56 : ¬ ((f4 (2 : Int32) (3 : Int32) z1_s0 b38 c48_mw p1 p2 p3 p4 3 (own_upd (own_upd (own_upd (fun _ => 0) 0 (nar .byte (f1 (0 : Int32) (3 : Int32) z1_s0 p1 p2 p3 p4))) 1 (nar .byte (f1 (1 : Int32) (3 : Int32) z1_s0 p1 p2 p3 p4))) 2 (nar .byte (f1 (2 : Int32) (3 : Int32) z1_s0 p1 p2 p3 p4))) 3 (own_upd (own_upd (own_upd (own_upd (fun _ => 0) 0 (nar .byte (f1 (0 : Int32) (3 : Int32) z1_s0 p1 p2 p3 p4))) 1 (nar .byte (f1 (1 : Int32) (3 : Int32) z1_s0 p1 p2 p3 p4))) 2 (nar .byte (f1 (2 : Int32) (3 : Int32) z1_s0 p1 p2 p3 p4))) (3 - 1) (nar .byte ((if ((own_upd (own_upd (own_upd (fun _ => 0) 0 (nar .byte (f1 (0 : Int32) (3 : Int32) z1_s0 p1 p2 p3 p4))) 1 (nar .byte (f1 (1 : Int32) (3 : Int32) z1_s0 p1 p2 p3 p4))) 2 (nar .byte (f1 (2 : Int32) (3 : Int32) z1_s0 p1 p2 p3 p4))) (3 - 1)) = (0 : Int32) then (255 : Int32) else (0 : Int32)).toInt8.toInt32))) 2) = (0 : Int32)) := own_last (by decide) (by decide) (own_f1b _ _ _ _ _ _ _) rfl
    refine Goes.go (fun _ k => XS.ifNo X55.here hx rfl (hb hby at_197) rfl ((if0 _ _).trans (feq hc197_56).1) k) ?_
    show Goes p e below s _ _ _ (T55.setTop (mkF m 200 #[.val (.int p0), .val (.int p1), .val (.int p2), .val (.int p3), .val (.int p4), .val (.int (3 : Int32)), .val (.int z1_s0), .val (.ref b38), .val (.ref c48_mw)] []))
    refine Goes.go (fun _ k => XS.iconst X55.here hx rfl (hb hby at_200) k) ?_
    show Goes p e below s _ _ _ (T55.setTop (mkF m 201 #[.val (.int p0), .val (.int p1), .val (.int p2), .val (.int p3), .val (.int p4), .val (.int (3 : Int32)), .val (.int z1_s0), .val (.ref b38), .val (.ref c48_mw)] [(.int (3 : Int32))]))
    refine Goes.go (fun _ k => XS.iload X55.here hx rfl (hb hby at_201) rfl  k) ?_
    show Goes p e below s _ _ _ (T55.setTop (mkF m 203 #[.val (.int p0), .val (.int p1), .val (.int p2), .val (.int p3), .val (.int p4), .val (.int (3 : Int32)), .val (.int z1_s0), .val (.ref b38), .val (.ref c48_mw)] [(.int (3 : Int32)), (.int (3 : Int32))]))
    refine Goes.go (fun _ k => XS.iload X55.here hx rfl (hb hby at_203) rfl  k) ?_
    show Goes p e below s _ _ _ (T55.setTop (mkF m 205 #[.val (.int p0), .val (.int p1), .val (.int p2), .val (.int p3), .val (.int p4), .val (.int (3 : Int32)), .val (.int z1_s0), .val (.ref b38), .val (.ref c48_mw)] [(.int z1_s0), (.int (3 : Int32)), (.int (3 : Int32))]))
    refine Goes.go (fun _ k => XS.aload X55.here hx rfl (hb hby at_205) rfl rfl  k) ?_
    show Goes p e below s _ _ _ (T55.setTop (mkF m 207 #[.val (.int p0), .val (.int p1), .val (.int p2), .val (.int p3), .val (.int p4), .val (.int (3 : Int32)), .val (.int z1_s0), .val (.ref b38), .val (.ref c48_mw)] [(.ref b38), (.int z1_s0), (.int (3 : Int32)), (.int (3 : Int32))]))
    refine Goes.go (fun _ k => XS.aload X55.here hx rfl (hb hby at_207) rfl rfl  k) ?_
    show Goes p e below s _ _ _ (T55.setTop (mkF m 209 #[.val (.int p0), .val (.int p1), .val (.int p2), .val (.int p3), .val (.int p4), .val (.int (3 : Int32)), .val (.int z1_s0), .val (.ref b38), .val (.ref c48_mw)] [(.ref c48_mw), (.ref b38), (.int z1_s0), (.int (3 : Int32)), (.int (3 : Int32))]))
    refine Goes.go (fun _ k => XS.iloadN X55.here hx rfl (hb hby at_209) rfl  k) ?_
    show Goes p e below s _ _ _ (T55.setTop (mkF m 210 #[.val (.int p0), .val (.int p1), .val (.int p2), .val (.int p3), .val (.int p4), .val (.int (3 : Int32)), .val (.int z1_s0), .val (.ref b38), .val (.ref c48_mw)] [(.int p1), (.ref c48_mw), (.ref b38), (.int z1_s0), (.int (3 : Int32)), (.int (3 : Int32))]))
    refine Goes.go (fun _ k => XS.iloadN X55.here hx rfl (hb hby at_210) rfl  k) ?_
    show Goes p e below s _ _ _ (T55.setTop (mkF m 211 #[.val (.int p0), .val (.int p1), .val (.int p2), .val (.int p3), .val (.int p4), .val (.int (3 : Int32)), .val (.int z1_s0), .val (.ref b38), .val (.ref c48_mw)] [(.int p2), (.int p1), (.ref c48_mw), (.ref b38), (.int z1_s0), (.int (3 : Int32)), (.int (3 : Int32))]))
    refine Goes.go (fun _ k => XS.iloadN X55.here hx rfl (hb hby at_211) rfl  k) ?_
    show Goes p e below s _ _ _ (T55.setTop (mkF m 212 #[.val (.int p0), .val (.int p1), .val (.int p2), .val (.int p3), .val (.int p4), .val (.int (3 : Int32)), .val (.int z1_s0), .val (.ref b38), .val (.ref c48_mw)] [(.int p3), (.int p2), (.int p1), (.ref c48_mw), (.ref b38), (.int z1_s0), (.int (3 : Int32)), (.int (3 : Int32))]))
    refine Goes.go (fun _ k => XS.iload X55.here hx rfl (hb hby at_212) rfl  k) ?_
    show Goes p e below s _ _ _ (T55.setTop (mkF m 214 #[.val (.int p0), .val (.int p1), .val (.int p2), .val (.int p3), .val (.int p4), .val (.int (3 : Int32)), .val (.int z1_s0), .val (.ref b38), .val (.ref c48_mw)] [(.int p4), (.int p3), (.int p2), (.int p1), (.ref c48_mw), (.ref b38), (.int z1_s0), (.int (3 : Int32)), (.int (3 : Int32))]))
    obtain ⟨_, _, ⟨T57, L57, k57, n57⟩, -, X57, ⟨Lc57, hQ57, l57, y57, z57⟩, st57⟩ := Jvm.LawKit.callS X55 hx (y := (⟨"org/cardprobe/CheckCharacterWithWrongCheckPinLaw", "slotOk", "(IIZ[B[BIIII)Z"⟩ : MethodName)) hown (mvT hZ (hw _ (List.mem_of_getElem? (i := 21) rfl))) (mvT hZ (hw _ (List.mem_of_getElem? (i := 22) rfl))) (mvT hZ (hw _ (List.mem_of_getElem? (i := 3) rfl))) (mvT hZ (hw _ (List.mem_of_getElem? (i := 23) rfl))) (by decide) (backOf (W := 0) (rm4 l Z a0 hw [] (3 : Int32) (3 : Int32) z1_s0 b38 c48_mw p1 p2 p3 p4 3 (own_upd (own_upd (own_upd (fun _ => 0) 0 (nar .byte (f1 (0 : Int32) (3 : Int32) z1_s0 p1 p2 p3 p4))) 1 (nar .byte (f1 (1 : Int32) (3 : Int32) z1_s0 p1 p2 p3 p4))) 2 (nar .byte (f1 (2 : Int32) (3 : Int32) z1_s0 p1 p2 p3 p4))) 3 (own_upd (own_upd (own_upd (own_upd (fun _ => 0) 0 (nar .byte (f1 (0 : Int32) (3 : Int32) z1_s0 p1 p2 p3 p4))) 1 (nar .byte (f1 (1 : Int32) (3 : Int32) z1_s0 p1 p2 p3 p4))) 2 (nar .byte (f1 (2 : Int32) (3 : Int32) z1_s0 p1 p2 p3 p4))) (3 - 1) (nar .byte ((if ((own_upd (own_upd (own_upd (fun _ => 0) 0 (nar .byte (f1 (0 : Int32) (3 : Int32) z1_s0 p1 p2 p3 p4))) 1 (nar .byte (f1 (1 : Int32) (3 : Int32) z1_s0 p1 p2 p3 p4))) 2 (nar .byte (f1 (2 : Int32) (3 : Int32) z1_s0 p1 p2 p3 p4))) (3 - 1)) = (0 : Int32) then (255 : Int32) else (0 : Int32)).toInt8.toInt32))) 3 h48 n0 Z48 (A46.keep Kq48 nin0) G48_0 rfl rfl rfl (by decide)) hZ (hw _ (List.mem_of_getElem? (i := 23) rfl)) (hw _ (List.mem_of_getElem? (i := 3) rfl)) (by decide) (by decide)) (g := (mkF m 214 #[.val (.int p0), .val (.int p1), .val (.int p2), .val (.int p3), .val (.int p4), .val (.int (3 : Int32)), .val (.int z1_s0), .val (.ref b38), .val (.ref c48_mw)] [(.int p4), (.int p3), (.int p2), (.int p1), (.ref c48_mw), (.ref b38), (.int z1_s0), (.int (3 : Int32)), (.int (3 : Int32))])) rfl (by rw [hml]; rfl) (argsL := [(.int (3 : Int32)), (.int (3 : Int32)), (.int z1_s0), (.ref b38), (.ref c48_mw), (.int p1), (.int p2), (.int p3), (.int p4)]) (rest := []) (lenOf pd_3 rfl) rfl (by show 2 * 0 + _ ≤ _; exact Nat.le_of_eq rfl) (hb hby at_214) (fun _ _ => ⟨rfl, e55, (by decide : 2 + 0 ≤ _), (by decide : 7 + 0 ≤ _)⟩)
    dsimp only [Pt.U, Pt.locs, Pt.cells, Pt.slots] at X57 l57 y57 z57 st57 hQ57
    subst l57 y57 z57
    obtain ⟨rfl, N57q, e57⟩ := hQ57
    have N57 := Fr.app N55 N57q
    refine Goes.go st57 ?_
    show Goes p e below s _ _ _ (T57.setTop (mkF m 217 #[.val (.int p0), .val (.int p1), .val (.int p2), .val (.int p3), .val (.int p4), .val (.int (3 : Int32)), .val (.int z1_s0), .val (.ref b38), .val (.ref c48_mw)] [(.int (f4 (3 : Int32) (3 : Int32) z1_s0 b38 c48_mw p1 p2 p3 p4 3 (own_upd (own_upd (own_upd (fun _ => 0) 0 (nar .byte (f1 (0 : Int32) (3 : Int32) z1_s0 p1 p2 p3 p4))) 1 (nar .byte (f1 (1 : Int32) (3 : Int32) z1_s0 p1 p2 p3 p4))) 2 (nar .byte (f1 (2 : Int32) (3 : Int32) z1_s0 p1 p2 p3 p4))) 3 (own_upd (own_upd (own_upd (own_upd (fun _ => 0) 0 (nar .byte (f1 (0 : Int32) (3 : Int32) z1_s0 p1 p2 p3 p4))) 1 (nar .byte (f1 (1 : Int32) (3 : Int32) z1_s0 p1 p2 p3 p4))) 2 (nar .byte (f1 (2 : Int32) (3 : Int32) z1_s0 p1 p2 p3 p4))) (3 - 1) (nar .byte ((if ((own_upd (own_upd (own_upd (fun _ => 0) 0 (nar .byte (f1 (0 : Int32) (3 : Int32) z1_s0 p1 p2 p3 p4))) 1 (nar .byte (f1 (1 : Int32) (3 : Int32) z1_s0 p1 p2 p3 p4))) 2 (nar .byte (f1 (2 : Int32) (3 : Int32) z1_s0 p1 p2 p3 p4))) (3 - 1)) = (0 : Int32) then (255 : Int32) else (0 : Int32)).toInt8.toInt32))) 3))]))
    have hc217_58 : ¬ ((f4 (3 : Int32) (3 : Int32) z1_s0 b38 c48_mw p1 p2 p3 p4 3 (own_upd (own_upd (own_upd (fun _ => 0) 0 (nar .byte (f1 (0 : Int32) (3 : Int32) z1_s0 p1 p2 p3 p4))) 1 (nar .byte (f1 (1 : Int32) (3 : Int32) z1_s0 p1 p2 p3 p4))) 2 (nar .byte (f1 (2 : Int32) (3 : Int32) z1_s0 p1 p2 p3 p4))) 3 (own_upd (own_upd (own_upd (own_upd (fun _ => 0) 0 (nar .byte (f1 (0 : Int32) (3 : Int32) z1_s0 p1 p2 p3 p4))) 1 (nar .byte (f1 (1 : Int32) (3 : Int32) z1_s0 p1 p2 p3 p4))) 2 (nar .byte (f1 (2 : Int32) (3 : Int32) z1_s0 p1 p2 p3 p4))) (3 - 1) (nar .byte ((if ((own_upd (own_upd (own_upd (fun _ => 0) 0 (nar .byte (f1 (0 : Int32) (3 : Int32) z1_s0 p1 p2 p3 p4))) 1 (nar .byte (f1 (1 : Int32) (3 : Int32) z1_s0 p1 p2 p3 p4))) 2 (nar .byte (f1 (2 : Int32) (3 : Int32) z1_s0 p1 p2 p3 p4))) (3 - 1)) = (0 : Int32) then (255 : Int32) else (0 : Int32)).toInt8.toInt32))) 3) = (0 : Int32)) := own_far (by decide)
    refine Goes.go (fun _ k => XS.ifNo X57.here hx rfl (hb hby at_217) rfl ((if0 _ _).trans (feq hc217_58).1) k) ?_
    show Goes p e below s _ _ _ (T57.setTop (mkF m 220 #[.val (.int p0), .val (.int p1), .val (.int p2), .val (.int p3), .val (.int p4), .val (.int (3 : Int32)), .val (.int z1_s0), .val (.ref b38), .val (.ref c48_mw)] []))
    refine Goes.go (fun _ k => XS.iconst X57.here hx rfl (hb hby at_220) k) ?_
    show Goes p e below s _ _ _ (T57.setTop (mkF m 221 #[.val (.int p0), .val (.int p1), .val (.int p2), .val (.int p3), .val (.int p4), .val (.int (3 : Int32)), .val (.int z1_s0), .val (.ref b38), .val (.ref c48_mw)] [(.int (1 : Int32))]))
    refine Goes.go (fun _ k => XS.goto X57.here hx rfl (pc0 := 221) (pc' := 225) rfl (hb hby at_221) (by decide) (by decide) k) ?_
    show Goes p e below s _ _ _ (T57.setTop (mkF m 225 #[.val (.int p0), .val (.int p1), .val (.int p2), .val (.int p3), .val (.int p4), .val (.int (3 : Int32)), .val (.int z1_s0), .val (.ref b38), .val (.ref c48_mw)] [(.int (1 : Int32))]))
    refine Goes.retN .boolean X57 hx hlk Bd.returns (by simp) (hb hby at_225) ?_ (by decide) (by decide)
    exact ⟨rfl, N57⟩
  · rw [show ((p0 &&& (3 : Int32)) + (1 : Int32)) = (4 : Int32) from by rw [en]; rfl]
    show Goes p e below s _ _ _ (s₁.setTop (mkF m 22 #[.val (.int p0), .val (.int p1), .val (.int p2), .val (.int p3), .val (.int p4), .val (.int (4 : Int32)), .val (.int z1_s0), .unset, .unset] []))
    refine Goes.go (fun _ k => XS.iload X0.here hx rfl (hb hby at_22) rfl  k) ?_
    show Goes p e below s _ _ _ (s₁.setTop (mkF m 24 #[.val (.int p0), .val (.int p1), .val (.int p2), .val (.int p3), .val (.int p4), .val (.int (4 : Int32)), .val (.int z1_s0), .unset, .unset] [(.int (4 : Int32))]))
    obtain ⟨T59, h59, X59, e59, E59, A59, EA59, st59⟩ := own_newA X0 hx hZ (hw _ (List.mem_of_getElem? (i := 0) rfl)) e0 (g := (mkF m 24 #[.val (.int p0), .val (.int p1), .val (.int p2), .val (.int p3), .val (.int p4), .val (.int (4 : Int32)), .val (.int z1_s0), .unset, .unset] [(.int (4 : Int32))])) rfl (hb hby at_24) rfl (n := 4) rfl (cap := 4) (Nat.le_refl _) (by decide) (by decide) (by decide) (by decide) (by decide) (by decide : _ = "[B")
    obtain ⟨b59, g59⟩ : ∃ z, z = h0.size := ⟨_, rfl⟩
    rw [← g59] at A59 EA59 st59
    have gb59 : n0 ≤ b59 := Nat.le_trans Z0 (Nat.le_of_eq g59.symm)
    have sb59 : h0.size ≤ b59 := Nat.le_trans K0.1 (Nat.le_of_eq g59.symm)
    have Z59 := Nat.le_trans Z0 E59.1
    have K59 := Keep.ext K0 E59
    refine Goes.go st59 ?_
    show Goes p e below s _ _ _ (T59.setTop (mkF m 26 #[.val (.int p0), .val (.int p1), .val (.int p2), .val (.int p3), .val (.int p4), .val (.int (4 : Int32)), .val (.int z1_s0), .unset, .unset] [(.ref b59)]))
    refine Goes.go (fun _ k => XS.astore X59.here hx rfl (hb hby at_26) rfl rfl (l' := #[.val (.int p0), .val (.int p1), .val (.int p2), .val (.int p3), .val (.int p4), .val (.int (4 : Int32)), .val (.int z1_s0), .val (.ref b59), .unset]) rfl k) ?_
    show Goes p e below s _ _ _ (T59.setTop (mkF m 28 #[.val (.int p0), .val (.int p1), .val (.int p2), .val (.int p3), .val (.int p4), .val (.int (4 : Int32)), .val (.int z1_s0), .val (.ref b59), .unset] []))
    refine Goes.go (fun _ k => XS.aload X59.here hx rfl (hb hby at_28) rfl rfl  k) ?_
    show Goes p e below s _ _ _ (T59.setTop (mkF m 30 #[.val (.int p0), .val (.int p1), .val (.int p2), .val (.int p3), .val (.int p4), .val (.int (4 : Int32)), .val (.int z1_s0), .val (.ref b59), .unset] [(.ref b59)]))
    refine Goes.go (fun _ k => XS.iconst X59.here hx rfl (hb hby at_30) k) ?_
    show Goes p e below s _ _ _ (T59.setTop (mkF m 31 #[.val (.int p0), .val (.int p1), .val (.int p2), .val (.int p3), .val (.int p4), .val (.int (4 : Int32)), .val (.int z1_s0), .val (.ref b59), .unset] [(.int (0 : Int32)), (.ref b59)]))
    refine Goes.go (fun _ k => XS.iconst X59.here hx rfl (hb hby at_31) k) ?_
    show Goes p e below s _ _ _ (T59.setTop (mkF m 32 #[.val (.int p0), .val (.int p1), .val (.int p2), .val (.int p3), .val (.int p4), .val (.int (4 : Int32)), .val (.int z1_s0), .val (.ref b59), .unset] [(.int (0 : Int32)), (.int (0 : Int32)), (.ref b59)]))
    refine Goes.go (fun _ k => XS.iload X59.here hx rfl (hb hby at_32) rfl  k) ?_
    show Goes p e below s _ _ _ (T59.setTop (mkF m 34 #[.val (.int p0), .val (.int p1), .val (.int p2), .val (.int p3), .val (.int p4), .val (.int (4 : Int32)), .val (.int z1_s0), .val (.ref b59), .unset] [(.int (4 : Int32)), (.int (0 : Int32)), (.int (0 : Int32)), (.ref b59)]))
    refine Goes.go (fun _ k => XS.iload X59.here hx rfl (hb hby at_34) rfl  k) ?_
    show Goes p e below s _ _ _ (T59.setTop (mkF m 36 #[.val (.int p0), .val (.int p1), .val (.int p2), .val (.int p3), .val (.int p4), .val (.int (4 : Int32)), .val (.int z1_s0), .val (.ref b59), .unset] [(.int z1_s0), (.int (4 : Int32)), (.int (0 : Int32)), (.int (0 : Int32)), (.ref b59)]))
    refine Goes.go (fun _ k => XS.iloadN X59.here hx rfl (hb hby at_36) rfl  k) ?_
    show Goes p e below s _ _ _ (T59.setTop (mkF m 37 #[.val (.int p0), .val (.int p1), .val (.int p2), .val (.int p3), .val (.int p4), .val (.int (4 : Int32)), .val (.int z1_s0), .val (.ref b59), .unset] [(.int p1), (.int z1_s0), (.int (4 : Int32)), (.int (0 : Int32)), (.int (0 : Int32)), (.ref b59)]))
    refine Goes.go (fun _ k => XS.iloadN X59.here hx rfl (hb hby at_37) rfl  k) ?_
    show Goes p e below s _ _ _ (T59.setTop (mkF m 38 #[.val (.int p0), .val (.int p1), .val (.int p2), .val (.int p3), .val (.int p4), .val (.int (4 : Int32)), .val (.int z1_s0), .val (.ref b59), .unset] [(.int p2), (.int p1), (.int z1_s0), (.int (4 : Int32)), (.int (0 : Int32)), (.int (0 : Int32)), (.ref b59)]))
    refine Goes.go (fun _ k => XS.iloadN X59.here hx rfl (hb hby at_38) rfl  k) ?_
    show Goes p e below s _ _ _ (T59.setTop (mkF m 39 #[.val (.int p0), .val (.int p1), .val (.int p2), .val (.int p3), .val (.int p4), .val (.int (4 : Int32)), .val (.int z1_s0), .val (.ref b59), .unset] [(.int p3), (.int p2), (.int p1), (.int z1_s0), (.int (4 : Int32)), (.int (0 : Int32)), (.int (0 : Int32)), (.ref b59)]))
    refine Goes.go (fun _ k => XS.iload X59.here hx rfl (hb hby at_39) rfl  k) ?_
    show Goes p e below s _ _ _ (T59.setTop (mkF m 41 #[.val (.int p0), .val (.int p1), .val (.int p2), .val (.int p3), .val (.int p4), .val (.int (4 : Int32)), .val (.int z1_s0), .val (.ref b59), .unset] [(.int p4), (.int p3), (.int p2), (.int p1), (.int z1_s0), (.int (4 : Int32)), (.int (0 : Int32)), (.int (0 : Int32)), (.ref b59)]))
    obtain ⟨_, _, ⟨T60, L60, k60, n60⟩, -, X60, ⟨Lc60, hQ60, l60, y60, z60⟩, st60⟩ := Jvm.LawKit.callS X59 hx (y := (⟨"org/cardprobe/CheckCharacterWithWrongCheckPinLaw", "orig", "(IIZIIII)B"⟩ : MethodName)) hown (mvT hZ (hw _ (List.mem_of_getElem? (i := 1) rfl))) (mvT hZ (hw _ (List.mem_of_getElem? (i := 2) rfl))) (mvT hZ (hw _ (List.mem_of_getElem? (i := 3) rfl))) (mvT hZ (hw _ (List.mem_of_getElem? (i := 4) rfl))) (by decide) (backOf (W := 2) (rm1 l Z a0 hw [] (0 : Int32) (4 : Int32) z1_s0 p1 p2 p3 p4 h59 n0 Z59 ) hZ (hw _ (List.mem_of_getElem? (i := 4) rfl)) (hw _ (List.mem_of_getElem? (i := 3) rfl)) (by decide) (by decide)) (g := (mkF m 41 #[.val (.int p0), .val (.int p1), .val (.int p2), .val (.int p3), .val (.int p4), .val (.int (4 : Int32)), .val (.int z1_s0), .val (.ref b59), .unset] [(.int p4), (.int p3), (.int p2), (.int p1), (.int z1_s0), (.int (4 : Int32)), (.int (0 : Int32)), (.int (0 : Int32)), (.ref b59)])) rfl (by rw [hml]; rfl) (argsL := [(.int (0 : Int32)), (.int (4 : Int32)), (.int z1_s0), (.int p1), (.int p2), (.int p3), (.int p4)]) (rest := [(.int (0 : Int32)), (.ref b59)]) (lenOf pd_1 rfl) rfl (by show 2 * 0 + _ ≤ _; exact Nat.le_of_eq rfl) (hb hby at_41) (fun _ _ => ⟨rfl, e59, (by decide : 1 + 0 ≤ _), (by decide : 4 + 0 ≤ _)⟩)
    dsimp only [Pt.U, Pt.locs, Pt.cells, Pt.slots] at X60 l60 y60 z60 st60 hQ60
    subst l60 y60 z60
    obtain ⟨rfl, N60q, e60⟩ := hQ60
    have N60 := Fr.app N0 N60q
    refine Goes.go st60 ?_
    show Goes p e below s _ _ _ (T60.setTop (mkF m 44 #[.val (.int p0), .val (.int p1), .val (.int p2), .val (.int p3), .val (.int p4), .val (.int (4 : Int32)), .val (.int z1_s0), .val (.ref b59), .unset] [(.int (f1 (0 : Int32) (4 : Int32) z1_s0 p1 p2 p3 p4)), (.int (0 : Int32)), (.ref b59)]))
    obtain ⟨T61, h61, X61, e61, W61, A61, st61⟩ := own_stB X60 hx hZ e60 A59 (i := 0) rfl (by decide) (g := (mkF m 44 #[.val (.int p0), .val (.int p1), .val (.int p2), .val (.int p3), .val (.int p4), .val (.int (4 : Int32)), .val (.int z1_s0), .val (.ref b59), .unset] [(.int (f1 (0 : Int32) (4 : Int32) z1_s0 p1 p2 p3 p4)), (.int (0 : Int32)), (.ref b59)])) rfl rfl (hb hby at_44)
    have N61 := Fr.snoc X61 N60 gb59
    have Z61 := Nat.le_trans Z59 (Keep.of_wr W61).1
    have K61 := Keep.wr K59 W61 (Or.inr sb59)
    refine Goes.go st61 ?_
    show Goes p e below s _ _ _ (T61.setTop (mkF m 45 #[.val (.int p0), .val (.int p1), .val (.int p2), .val (.int p3), .val (.int p4), .val (.int (4 : Int32)), .val (.int z1_s0), .val (.ref b59), .unset] []))
    refine Goes.go (fun _ k => XS.iload X61.here hx rfl (hb hby at_45) rfl  k) ?_
    show Goes p e below s _ _ _ (T61.setTop (mkF m 47 #[.val (.int p0), .val (.int p1), .val (.int p2), .val (.int p3), .val (.int p4), .val (.int (4 : Int32)), .val (.int z1_s0), .val (.ref b59), .unset] [(.int (4 : Int32))]))
    refine Goes.go (fun _ k => XS.iconst X61.here hx rfl (hb hby at_47) k) ?_
    show Goes p e below s _ _ _ (T61.setTop (mkF m 48 #[.val (.int p0), .val (.int p1), .val (.int p2), .val (.int p3), .val (.int p4), .val (.int (4 : Int32)), .val (.int z1_s0), .val (.ref b59), .unset] [(.int (1 : Int32)), (.int (4 : Int32))]))
    have hc48_62 : (1 : Int32) < (4 : Int32) := (by decide)
    refine Goes.go (fun _ k => XS.icmpNo X61.here hx rfl (hb hby at_48) rfl (tlt hc48_62).2.2.2 k) ?_
    show Goes p e below s _ _ _ (T61.setTop (mkF m 51 #[.val (.int p0), .val (.int p1), .val (.int p2), .val (.int p3), .val (.int p4), .val (.int (4 : Int32)), .val (.int z1_s0), .val (.ref b59), .unset] []))
    refine Goes.go (fun _ k => XS.aload X61.here hx rfl (hb hby at_51) rfl rfl  k) ?_
    show Goes p e below s _ _ _ (T61.setTop (mkF m 53 #[.val (.int p0), .val (.int p1), .val (.int p2), .val (.int p3), .val (.int p4), .val (.int (4 : Int32)), .val (.int z1_s0), .val (.ref b59), .unset] [(.ref b59)]))
    refine Goes.go (fun _ k => XS.iconst X61.here hx rfl (hb hby at_53) k) ?_
    show Goes p e below s _ _ _ (T61.setTop (mkF m 54 #[.val (.int p0), .val (.int p1), .val (.int p2), .val (.int p3), .val (.int p4), .val (.int (4 : Int32)), .val (.int z1_s0), .val (.ref b59), .unset] [(.int (1 : Int32)), (.ref b59)]))
    refine Goes.go (fun _ k => XS.iconst X61.here hx rfl (hb hby at_54) k) ?_
    show Goes p e below s _ _ _ (T61.setTop (mkF m 55 #[.val (.int p0), .val (.int p1), .val (.int p2), .val (.int p3), .val (.int p4), .val (.int (4 : Int32)), .val (.int z1_s0), .val (.ref b59), .unset] [(.int (1 : Int32)), (.int (1 : Int32)), (.ref b59)]))
    refine Goes.go (fun _ k => XS.iload X61.here hx rfl (hb hby at_55) rfl  k) ?_
    show Goes p e below s _ _ _ (T61.setTop (mkF m 57 #[.val (.int p0), .val (.int p1), .val (.int p2), .val (.int p3), .val (.int p4), .val (.int (4 : Int32)), .val (.int z1_s0), .val (.ref b59), .unset] [(.int (4 : Int32)), (.int (1 : Int32)), (.int (1 : Int32)), (.ref b59)]))
    refine Goes.go (fun _ k => XS.iload X61.here hx rfl (hb hby at_57) rfl  k) ?_
    show Goes p e below s _ _ _ (T61.setTop (mkF m 59 #[.val (.int p0), .val (.int p1), .val (.int p2), .val (.int p3), .val (.int p4), .val (.int (4 : Int32)), .val (.int z1_s0), .val (.ref b59), .unset] [(.int z1_s0), (.int (4 : Int32)), (.int (1 : Int32)), (.int (1 : Int32)), (.ref b59)]))
    refine Goes.go (fun _ k => XS.iloadN X61.here hx rfl (hb hby at_59) rfl  k) ?_
    show Goes p e below s _ _ _ (T61.setTop (mkF m 60 #[.val (.int p0), .val (.int p1), .val (.int p2), .val (.int p3), .val (.int p4), .val (.int (4 : Int32)), .val (.int z1_s0), .val (.ref b59), .unset] [(.int p1), (.int z1_s0), (.int (4 : Int32)), (.int (1 : Int32)), (.int (1 : Int32)), (.ref b59)]))
    refine Goes.go (fun _ k => XS.iloadN X61.here hx rfl (hb hby at_60) rfl  k) ?_
    show Goes p e below s _ _ _ (T61.setTop (mkF m 61 #[.val (.int p0), .val (.int p1), .val (.int p2), .val (.int p3), .val (.int p4), .val (.int (4 : Int32)), .val (.int z1_s0), .val (.ref b59), .unset] [(.int p2), (.int p1), (.int z1_s0), (.int (4 : Int32)), (.int (1 : Int32)), (.int (1 : Int32)), (.ref b59)]))
    refine Goes.go (fun _ k => XS.iloadN X61.here hx rfl (hb hby at_61) rfl  k) ?_
    show Goes p e below s _ _ _ (T61.setTop (mkF m 62 #[.val (.int p0), .val (.int p1), .val (.int p2), .val (.int p3), .val (.int p4), .val (.int (4 : Int32)), .val (.int z1_s0), .val (.ref b59), .unset] [(.int p3), (.int p2), (.int p1), (.int z1_s0), (.int (4 : Int32)), (.int (1 : Int32)), (.int (1 : Int32)), (.ref b59)]))
    refine Goes.go (fun _ k => XS.iload X61.here hx rfl (hb hby at_62) rfl  k) ?_
    show Goes p e below s _ _ _ (T61.setTop (mkF m 64 #[.val (.int p0), .val (.int p1), .val (.int p2), .val (.int p3), .val (.int p4), .val (.int (4 : Int32)), .val (.int z1_s0), .val (.ref b59), .unset] [(.int p4), (.int p3), (.int p2), (.int p1), (.int z1_s0), (.int (4 : Int32)), (.int (1 : Int32)), (.int (1 : Int32)), (.ref b59)]))
    obtain ⟨_, _, ⟨T63, L63, k63, n63⟩, -, X63, ⟨Lc63, hQ63, l63, y63, z63⟩, st63⟩ := Jvm.LawKit.callS X61 hx (y := (⟨"org/cardprobe/CheckCharacterWithWrongCheckPinLaw", "orig", "(IIZIIII)B"⟩ : MethodName)) hown (mvT hZ (hw _ (List.mem_of_getElem? (i := 1) rfl))) (mvT hZ (hw _ (List.mem_of_getElem? (i := 2) rfl))) (mvT hZ (hw _ (List.mem_of_getElem? (i := 3) rfl))) (mvT hZ (hw _ (List.mem_of_getElem? (i := 4) rfl))) (by decide) (backOf (W := 2) (rm1 l Z a0 hw [] (1 : Int32) (4 : Int32) z1_s0 p1 p2 p3 p4 h61 n0 Z61 ) hZ (hw _ (List.mem_of_getElem? (i := 4) rfl)) (hw _ (List.mem_of_getElem? (i := 3) rfl)) (by decide) (by decide)) (g := (mkF m 64 #[.val (.int p0), .val (.int p1), .val (.int p2), .val (.int p3), .val (.int p4), .val (.int (4 : Int32)), .val (.int z1_s0), .val (.ref b59), .unset] [(.int p4), (.int p3), (.int p2), (.int p1), (.int z1_s0), (.int (4 : Int32)), (.int (1 : Int32)), (.int (1 : Int32)), (.ref b59)])) rfl (by rw [hml]; rfl) (argsL := [(.int (1 : Int32)), (.int (4 : Int32)), (.int z1_s0), (.int p1), (.int p2), (.int p3), (.int p4)]) (rest := [(.int (1 : Int32)), (.ref b59)]) (lenOf pd_1 rfl) rfl (by show 2 * 0 + _ ≤ _; exact Nat.le_of_eq rfl) (hb hby at_64) (fun _ _ => ⟨rfl, e61, (by decide : 1 + 0 ≤ _), (by decide : 4 + 0 ≤ _)⟩)
    dsimp only [Pt.U, Pt.locs, Pt.cells, Pt.slots] at X63 l63 y63 z63 st63 hQ63
    subst l63 y63 z63
    obtain ⟨rfl, N63q, e63⟩ := hQ63
    have N63 := Fr.app N61 N63q
    refine Goes.go st63 ?_
    show Goes p e below s _ _ _ (T63.setTop (mkF m 67 #[.val (.int p0), .val (.int p1), .val (.int p2), .val (.int p3), .val (.int p4), .val (.int (4 : Int32)), .val (.int z1_s0), .val (.ref b59), .unset] [(.int (f1 (1 : Int32) (4 : Int32) z1_s0 p1 p2 p3 p4)), (.int (1 : Int32)), (.ref b59)]))
    obtain ⟨T64, h64, X64, e64, W64, A64, st64⟩ := own_stB X63 hx hZ e63 A61 (i := 1) rfl (by decide) (g := (mkF m 67 #[.val (.int p0), .val (.int p1), .val (.int p2), .val (.int p3), .val (.int p4), .val (.int (4 : Int32)), .val (.int z1_s0), .val (.ref b59), .unset] [(.int (f1 (1 : Int32) (4 : Int32) z1_s0 p1 p2 p3 p4)), (.int (1 : Int32)), (.ref b59)])) rfl rfl (hb hby at_67)
    have N64 := Fr.snoc X64 N63 gb59
    have Z64 := Nat.le_trans Z61 (Keep.of_wr W64).1
    have K64 := Keep.wr K61 W64 (Or.inr sb59)
    refine Goes.go st64 ?_
    show Goes p e below s _ _ _ (T64.setTop (mkF m 68 #[.val (.int p0), .val (.int p1), .val (.int p2), .val (.int p3), .val (.int p4), .val (.int (4 : Int32)), .val (.int z1_s0), .val (.ref b59), .unset] []))
    refine Goes.go (fun _ k => XS.iload X64.here hx rfl (hb hby at_68) rfl  k) ?_
    show Goes p e below s _ _ _ (T64.setTop (mkF m 70 #[.val (.int p0), .val (.int p1), .val (.int p2), .val (.int p3), .val (.int p4), .val (.int (4 : Int32)), .val (.int z1_s0), .val (.ref b59), .unset] [(.int (4 : Int32))]))
    refine Goes.go (fun _ k => XS.iconst X64.here hx rfl (hb hby at_70) k) ?_
    show Goes p e below s _ _ _ (T64.setTop (mkF m 71 #[.val (.int p0), .val (.int p1), .val (.int p2), .val (.int p3), .val (.int p4), .val (.int (4 : Int32)), .val (.int z1_s0), .val (.ref b59), .unset] [(.int (2 : Int32)), (.int (4 : Int32))]))
    have hc71_65 : (2 : Int32) < (4 : Int32) := (by decide)
    refine Goes.go (fun _ k => XS.icmpNo X64.here hx rfl (hb hby at_71) rfl (tlt hc71_65).2.2.2 k) ?_
    show Goes p e below s _ _ _ (T64.setTop (mkF m 74 #[.val (.int p0), .val (.int p1), .val (.int p2), .val (.int p3), .val (.int p4), .val (.int (4 : Int32)), .val (.int z1_s0), .val (.ref b59), .unset] []))
    refine Goes.go (fun _ k => XS.aload X64.here hx rfl (hb hby at_74) rfl rfl  k) ?_
    show Goes p e below s _ _ _ (T64.setTop (mkF m 76 #[.val (.int p0), .val (.int p1), .val (.int p2), .val (.int p3), .val (.int p4), .val (.int (4 : Int32)), .val (.int z1_s0), .val (.ref b59), .unset] [(.ref b59)]))
    refine Goes.go (fun _ k => XS.iconst X64.here hx rfl (hb hby at_76) k) ?_
    show Goes p e below s _ _ _ (T64.setTop (mkF m 77 #[.val (.int p0), .val (.int p1), .val (.int p2), .val (.int p3), .val (.int p4), .val (.int (4 : Int32)), .val (.int z1_s0), .val (.ref b59), .unset] [(.int (2 : Int32)), (.ref b59)]))
    refine Goes.go (fun _ k => XS.iconst X64.here hx rfl (hb hby at_77) k) ?_
    show Goes p e below s _ _ _ (T64.setTop (mkF m 78 #[.val (.int p0), .val (.int p1), .val (.int p2), .val (.int p3), .val (.int p4), .val (.int (4 : Int32)), .val (.int z1_s0), .val (.ref b59), .unset] [(.int (2 : Int32)), (.int (2 : Int32)), (.ref b59)]))
    refine Goes.go (fun _ k => XS.iload X64.here hx rfl (hb hby at_78) rfl  k) ?_
    show Goes p e below s _ _ _ (T64.setTop (mkF m 80 #[.val (.int p0), .val (.int p1), .val (.int p2), .val (.int p3), .val (.int p4), .val (.int (4 : Int32)), .val (.int z1_s0), .val (.ref b59), .unset] [(.int (4 : Int32)), (.int (2 : Int32)), (.int (2 : Int32)), (.ref b59)]))
    refine Goes.go (fun _ k => XS.iload X64.here hx rfl (hb hby at_80) rfl  k) ?_
    show Goes p e below s _ _ _ (T64.setTop (mkF m 82 #[.val (.int p0), .val (.int p1), .val (.int p2), .val (.int p3), .val (.int p4), .val (.int (4 : Int32)), .val (.int z1_s0), .val (.ref b59), .unset] [(.int z1_s0), (.int (4 : Int32)), (.int (2 : Int32)), (.int (2 : Int32)), (.ref b59)]))
    refine Goes.go (fun _ k => XS.iloadN X64.here hx rfl (hb hby at_82) rfl  k) ?_
    show Goes p e below s _ _ _ (T64.setTop (mkF m 83 #[.val (.int p0), .val (.int p1), .val (.int p2), .val (.int p3), .val (.int p4), .val (.int (4 : Int32)), .val (.int z1_s0), .val (.ref b59), .unset] [(.int p1), (.int z1_s0), (.int (4 : Int32)), (.int (2 : Int32)), (.int (2 : Int32)), (.ref b59)]))
    refine Goes.go (fun _ k => XS.iloadN X64.here hx rfl (hb hby at_83) rfl  k) ?_
    show Goes p e below s _ _ _ (T64.setTop (mkF m 84 #[.val (.int p0), .val (.int p1), .val (.int p2), .val (.int p3), .val (.int p4), .val (.int (4 : Int32)), .val (.int z1_s0), .val (.ref b59), .unset] [(.int p2), (.int p1), (.int z1_s0), (.int (4 : Int32)), (.int (2 : Int32)), (.int (2 : Int32)), (.ref b59)]))
    refine Goes.go (fun _ k => XS.iloadN X64.here hx rfl (hb hby at_84) rfl  k) ?_
    show Goes p e below s _ _ _ (T64.setTop (mkF m 85 #[.val (.int p0), .val (.int p1), .val (.int p2), .val (.int p3), .val (.int p4), .val (.int (4 : Int32)), .val (.int z1_s0), .val (.ref b59), .unset] [(.int p3), (.int p2), (.int p1), (.int z1_s0), (.int (4 : Int32)), (.int (2 : Int32)), (.int (2 : Int32)), (.ref b59)]))
    refine Goes.go (fun _ k => XS.iload X64.here hx rfl (hb hby at_85) rfl  k) ?_
    show Goes p e below s _ _ _ (T64.setTop (mkF m 87 #[.val (.int p0), .val (.int p1), .val (.int p2), .val (.int p3), .val (.int p4), .val (.int (4 : Int32)), .val (.int z1_s0), .val (.ref b59), .unset] [(.int p4), (.int p3), (.int p2), (.int p1), (.int z1_s0), (.int (4 : Int32)), (.int (2 : Int32)), (.int (2 : Int32)), (.ref b59)]))
    obtain ⟨_, _, ⟨T66, L66, k66, n66⟩, -, X66, ⟨Lc66, hQ66, l66, y66, z66⟩, st66⟩ := Jvm.LawKit.callS X64 hx (y := (⟨"org/cardprobe/CheckCharacterWithWrongCheckPinLaw", "orig", "(IIZIIII)B"⟩ : MethodName)) hown (mvT hZ (hw _ (List.mem_of_getElem? (i := 1) rfl))) (mvT hZ (hw _ (List.mem_of_getElem? (i := 2) rfl))) (mvT hZ (hw _ (List.mem_of_getElem? (i := 3) rfl))) (mvT hZ (hw _ (List.mem_of_getElem? (i := 4) rfl))) (by decide) (backOf (W := 2) (rm1 l Z a0 hw [] (2 : Int32) (4 : Int32) z1_s0 p1 p2 p3 p4 h64 n0 Z64 ) hZ (hw _ (List.mem_of_getElem? (i := 4) rfl)) (hw _ (List.mem_of_getElem? (i := 3) rfl)) (by decide) (by decide)) (g := (mkF m 87 #[.val (.int p0), .val (.int p1), .val (.int p2), .val (.int p3), .val (.int p4), .val (.int (4 : Int32)), .val (.int z1_s0), .val (.ref b59), .unset] [(.int p4), (.int p3), (.int p2), (.int p1), (.int z1_s0), (.int (4 : Int32)), (.int (2 : Int32)), (.int (2 : Int32)), (.ref b59)])) rfl (by rw [hml]; rfl) (argsL := [(.int (2 : Int32)), (.int (4 : Int32)), (.int z1_s0), (.int p1), (.int p2), (.int p3), (.int p4)]) (rest := [(.int (2 : Int32)), (.ref b59)]) (lenOf pd_1 rfl) rfl (by show 2 * 0 + _ ≤ _; exact Nat.le_of_eq rfl) (hb hby at_87) (fun _ _ => ⟨rfl, e64, (by decide : 1 + 0 ≤ _), (by decide : 4 + 0 ≤ _)⟩)
    dsimp only [Pt.U, Pt.locs, Pt.cells, Pt.slots] at X66 l66 y66 z66 st66 hQ66
    subst l66 y66 z66
    obtain ⟨rfl, N66q, e66⟩ := hQ66
    have N66 := Fr.app N64 N66q
    refine Goes.go st66 ?_
    show Goes p e below s _ _ _ (T66.setTop (mkF m 90 #[.val (.int p0), .val (.int p1), .val (.int p2), .val (.int p3), .val (.int p4), .val (.int (4 : Int32)), .val (.int z1_s0), .val (.ref b59), .unset] [(.int (f1 (2 : Int32) (4 : Int32) z1_s0 p1 p2 p3 p4)), (.int (2 : Int32)), (.ref b59)]))
    obtain ⟨T67, h67, X67, e67, W67, A67, st67⟩ := own_stB X66 hx hZ e66 A64 (i := 2) rfl (by decide) (g := (mkF m 90 #[.val (.int p0), .val (.int p1), .val (.int p2), .val (.int p3), .val (.int p4), .val (.int (4 : Int32)), .val (.int z1_s0), .val (.ref b59), .unset] [(.int (f1 (2 : Int32) (4 : Int32) z1_s0 p1 p2 p3 p4)), (.int (2 : Int32)), (.ref b59)])) rfl rfl (hb hby at_90)
    have N67 := Fr.snoc X67 N66 gb59
    have Z67 := Nat.le_trans Z64 (Keep.of_wr W67).1
    have K67 := Keep.wr K64 W67 (Or.inr sb59)
    refine Goes.go st67 ?_
    show Goes p e below s _ _ _ (T67.setTop (mkF m 91 #[.val (.int p0), .val (.int p1), .val (.int p2), .val (.int p3), .val (.int p4), .val (.int (4 : Int32)), .val (.int z1_s0), .val (.ref b59), .unset] []))
    refine Goes.go (fun _ k => XS.iload X67.here hx rfl (hb hby at_91) rfl  k) ?_
    show Goes p e below s _ _ _ (T67.setTop (mkF m 93 #[.val (.int p0), .val (.int p1), .val (.int p2), .val (.int p3), .val (.int p4), .val (.int (4 : Int32)), .val (.int z1_s0), .val (.ref b59), .unset] [(.int (4 : Int32))]))
    refine Goes.go (fun _ k => XS.iconst X67.here hx rfl (hb hby at_93) k) ?_
    show Goes p e below s _ _ _ (T67.setTop (mkF m 94 #[.val (.int p0), .val (.int p1), .val (.int p2), .val (.int p3), .val (.int p4), .val (.int (4 : Int32)), .val (.int z1_s0), .val (.ref b59), .unset] [(.int (3 : Int32)), (.int (4 : Int32))]))
    have hc94_68 : (3 : Int32) < (4 : Int32) := (by decide)
    refine Goes.go (fun _ k => XS.icmpNo X67.here hx rfl (hb hby at_94) rfl (tlt hc94_68).2.2.2 k) ?_
    show Goes p e below s _ _ _ (T67.setTop (mkF m 97 #[.val (.int p0), .val (.int p1), .val (.int p2), .val (.int p3), .val (.int p4), .val (.int (4 : Int32)), .val (.int z1_s0), .val (.ref b59), .unset] []))
    refine Goes.go (fun _ k => XS.aload X67.here hx rfl (hb hby at_97) rfl rfl  k) ?_
    show Goes p e below s _ _ _ (T67.setTop (mkF m 99 #[.val (.int p0), .val (.int p1), .val (.int p2), .val (.int p3), .val (.int p4), .val (.int (4 : Int32)), .val (.int z1_s0), .val (.ref b59), .unset] [(.ref b59)]))
    refine Goes.go (fun _ k => XS.iconst X67.here hx rfl (hb hby at_99) k) ?_
    show Goes p e below s _ _ _ (T67.setTop (mkF m 100 #[.val (.int p0), .val (.int p1), .val (.int p2), .val (.int p3), .val (.int p4), .val (.int (4 : Int32)), .val (.int z1_s0), .val (.ref b59), .unset] [(.int (3 : Int32)), (.ref b59)]))
    refine Goes.go (fun _ k => XS.iconst X67.here hx rfl (hb hby at_100) k) ?_
    show Goes p e below s _ _ _ (T67.setTop (mkF m 101 #[.val (.int p0), .val (.int p1), .val (.int p2), .val (.int p3), .val (.int p4), .val (.int (4 : Int32)), .val (.int z1_s0), .val (.ref b59), .unset] [(.int (3 : Int32)), (.int (3 : Int32)), (.ref b59)]))
    refine Goes.go (fun _ k => XS.iload X67.here hx rfl (hb hby at_101) rfl  k) ?_
    show Goes p e below s _ _ _ (T67.setTop (mkF m 103 #[.val (.int p0), .val (.int p1), .val (.int p2), .val (.int p3), .val (.int p4), .val (.int (4 : Int32)), .val (.int z1_s0), .val (.ref b59), .unset] [(.int (4 : Int32)), (.int (3 : Int32)), (.int (3 : Int32)), (.ref b59)]))
    refine Goes.go (fun _ k => XS.iload X67.here hx rfl (hb hby at_103) rfl  k) ?_
    show Goes p e below s _ _ _ (T67.setTop (mkF m 105 #[.val (.int p0), .val (.int p1), .val (.int p2), .val (.int p3), .val (.int p4), .val (.int (4 : Int32)), .val (.int z1_s0), .val (.ref b59), .unset] [(.int z1_s0), (.int (4 : Int32)), (.int (3 : Int32)), (.int (3 : Int32)), (.ref b59)]))
    refine Goes.go (fun _ k => XS.iloadN X67.here hx rfl (hb hby at_105) rfl  k) ?_
    show Goes p e below s _ _ _ (T67.setTop (mkF m 106 #[.val (.int p0), .val (.int p1), .val (.int p2), .val (.int p3), .val (.int p4), .val (.int (4 : Int32)), .val (.int z1_s0), .val (.ref b59), .unset] [(.int p1), (.int z1_s0), (.int (4 : Int32)), (.int (3 : Int32)), (.int (3 : Int32)), (.ref b59)]))
    refine Goes.go (fun _ k => XS.iloadN X67.here hx rfl (hb hby at_106) rfl  k) ?_
    show Goes p e below s _ _ _ (T67.setTop (mkF m 107 #[.val (.int p0), .val (.int p1), .val (.int p2), .val (.int p3), .val (.int p4), .val (.int (4 : Int32)), .val (.int z1_s0), .val (.ref b59), .unset] [(.int p2), (.int p1), (.int z1_s0), (.int (4 : Int32)), (.int (3 : Int32)), (.int (3 : Int32)), (.ref b59)]))
    refine Goes.go (fun _ k => XS.iloadN X67.here hx rfl (hb hby at_107) rfl  k) ?_
    show Goes p e below s _ _ _ (T67.setTop (mkF m 108 #[.val (.int p0), .val (.int p1), .val (.int p2), .val (.int p3), .val (.int p4), .val (.int (4 : Int32)), .val (.int z1_s0), .val (.ref b59), .unset] [(.int p3), (.int p2), (.int p1), (.int z1_s0), (.int (4 : Int32)), (.int (3 : Int32)), (.int (3 : Int32)), (.ref b59)]))
    refine Goes.go (fun _ k => XS.iload X67.here hx rfl (hb hby at_108) rfl  k) ?_
    show Goes p e below s _ _ _ (T67.setTop (mkF m 110 #[.val (.int p0), .val (.int p1), .val (.int p2), .val (.int p3), .val (.int p4), .val (.int (4 : Int32)), .val (.int z1_s0), .val (.ref b59), .unset] [(.int p4), (.int p3), (.int p2), (.int p1), (.int z1_s0), (.int (4 : Int32)), (.int (3 : Int32)), (.int (3 : Int32)), (.ref b59)]))
    obtain ⟨_, _, ⟨T69, L69, k69, n69⟩, -, X69, ⟨Lc69, hQ69, l69, y69, z69⟩, st69⟩ := Jvm.LawKit.callS X67 hx (y := (⟨"org/cardprobe/CheckCharacterWithWrongCheckPinLaw", "orig", "(IIZIIII)B"⟩ : MethodName)) hown (mvT hZ (hw _ (List.mem_of_getElem? (i := 1) rfl))) (mvT hZ (hw _ (List.mem_of_getElem? (i := 2) rfl))) (mvT hZ (hw _ (List.mem_of_getElem? (i := 3) rfl))) (mvT hZ (hw _ (List.mem_of_getElem? (i := 4) rfl))) (by decide) (backOf (W := 2) (rm1 l Z a0 hw [] (3 : Int32) (4 : Int32) z1_s0 p1 p2 p3 p4 h67 n0 Z67 ) hZ (hw _ (List.mem_of_getElem? (i := 4) rfl)) (hw _ (List.mem_of_getElem? (i := 3) rfl)) (by decide) (by decide)) (g := (mkF m 110 #[.val (.int p0), .val (.int p1), .val (.int p2), .val (.int p3), .val (.int p4), .val (.int (4 : Int32)), .val (.int z1_s0), .val (.ref b59), .unset] [(.int p4), (.int p3), (.int p2), (.int p1), (.int z1_s0), (.int (4 : Int32)), (.int (3 : Int32)), (.int (3 : Int32)), (.ref b59)])) rfl (by rw [hml]; rfl) (argsL := [(.int (3 : Int32)), (.int (4 : Int32)), (.int z1_s0), (.int p1), (.int p2), (.int p3), (.int p4)]) (rest := [(.int (3 : Int32)), (.ref b59)]) (lenOf pd_1 rfl) rfl (by show 2 * 0 + _ ≤ _; exact Nat.le_of_eq rfl) (hb hby at_110) (fun _ _ => ⟨rfl, e67, (by decide : 1 + 0 ≤ _), (by decide : 4 + 0 ≤ _)⟩)
    dsimp only [Pt.U, Pt.locs, Pt.cells, Pt.slots] at X69 l69 y69 z69 st69 hQ69
    subst l69 y69 z69
    obtain ⟨rfl, N69q, e69⟩ := hQ69
    have N69 := Fr.app N67 N69q
    refine Goes.go st69 ?_
    show Goes p e below s _ _ _ (T69.setTop (mkF m 113 #[.val (.int p0), .val (.int p1), .val (.int p2), .val (.int p3), .val (.int p4), .val (.int (4 : Int32)), .val (.int z1_s0), .val (.ref b59), .unset] [(.int (f1 (3 : Int32) (4 : Int32) z1_s0 p1 p2 p3 p4)), (.int (3 : Int32)), (.ref b59)]))
    obtain ⟨T70, h70, X70, e70, W70, A70, st70⟩ := own_stB X69 hx hZ e69 A67 (i := 3) rfl (by decide) (g := (mkF m 113 #[.val (.int p0), .val (.int p1), .val (.int p2), .val (.int p3), .val (.int p4), .val (.int (4 : Int32)), .val (.int z1_s0), .val (.ref b59), .unset] [(.int (f1 (3 : Int32) (4 : Int32) z1_s0 p1 p2 p3 p4)), (.int (3 : Int32)), (.ref b59)])) rfl rfl (hb hby at_113)
    have N70 := Fr.snoc X70 N69 gb59
    have Z70 := Nat.le_trans Z67 (Keep.of_wr W70).1
    have K70 := Keep.wr K67 W70 (Or.inr sb59)
    refine Goes.go st70 ?_
    show Goes p e below s _ _ _ (T70.setTop (mkF m 114 #[.val (.int p0), .val (.int p1), .val (.int p2), .val (.int p3), .val (.int p4), .val (.int (4 : Int32)), .val (.int z1_s0), .val (.ref b59), .unset] []))
    refine Goes.go (fun _ k => XS.aload X70.here hx rfl (hb hby at_114) rfl rfl  k) ?_
    show Goes p e below s _ _ _ (T70.setTop (mkF m 116 #[.val (.int p0), .val (.int p1), .val (.int p2), .val (.int p3), .val (.int p4), .val (.int (4 : Int32)), .val (.int z1_s0), .val (.ref b59), .unset] [(.ref b59)]))
    obtain ⟨_, _, ⟨T71, L71, k71, n71⟩, -, X71, ⟨Lc71, hQ71, l71, y71, z71⟩, st71⟩ := Jvm.LawKit.callS X70 hx (y := (⟨"org/cardprobe/CheckCharacter", "withWrongCheck", "([B)[B"⟩ : MethodName)) hown (mvT hZ (hw _ (List.mem_of_getElem? (i := 8) rfl))) (mvT hZ (hw _ (List.mem_of_getElem? (i := 9) rfl))) (mvT hZ (hw _ (List.mem_of_getElem? (i := 10) rfl))) (mvT hZ (hw _ (List.mem_of_getElem? (i := 11) rfl))) (by decide) (backOf (W := 0) (rm3 l Z a0 hw [] b59 4 (own_upd (own_upd (own_upd (own_upd (fun _ => 0) 0 (nar .byte (f1 (0 : Int32) (4 : Int32) z1_s0 p1 p2 p3 p4))) 1 (nar .byte (f1 (1 : Int32) (4 : Int32) z1_s0 p1 p2 p3 p4))) 2 (nar .byte (f1 (2 : Int32) (4 : Int32) z1_s0 p1 p2 p3 p4))) 3 (nar .byte (f1 (3 : Int32) (4 : Int32) z1_s0 p1 p2 p3 p4))) h70 n0 Z70 A70 ((((EA59.wr W61).wr W64).wr W67).wr W70) (by decide) (by decide)) hZ (hw _ (List.mem_of_getElem? (i := 11) rfl)) (hw _ (List.mem_of_getElem? (i := 10) rfl)) (by decide) (by decide)) (g := (mkF m 116 #[.val (.int p0), .val (.int p1), .val (.int p2), .val (.int p3), .val (.int p4), .val (.int (4 : Int32)), .val (.int z1_s0), .val (.ref b59), .unset] [(.ref b59)])) rfl (by rw [hml]; rfl) (argsL := [(.ref b59)]) (rest := []) (lenOf pd_2 rfl) rfl (by show 2 * 0 + _ ≤ _; exact Nat.le_of_eq rfl) (hb hby at_116) (fun _ _ => ⟨rfl, e70, (by decide : 1 + 1 ≤ _), (by decide : 4 + 4 ≤ _)⟩)
    dsimp only [Pt.U, Pt.locs, Pt.cells, Pt.slots] at X71 l71 y71 z71 st71 hQ71
    subst l71 y71 z71
    obtain ⟨h71, e71⟩ : ∃ z, T71.heap = z := ⟨_, rfl⟩
    rw [e71] at hQ71
    obtain ⟨c71_mw, sb_c71_mw, rfl, N71q, Kq71, G71_0⟩ := hQ71
    have N71 := Fr.app N70 N71q
    have gb_c71_mw : n0 ≤ c71_mw := Nat.le_trans Z70 sb_c71_mw
    have sh_c71_mw : h0.size ≤ c71_mw := Nat.le_trans K70.1 sb_c71_mw
    have K71 := Keep.trans K70 Kq71 all0
    have Z71 := Nat.le_trans Z70 Kq71.1
    refine Goes.go st71 ?_
    show Goes p e below s _ _ _ (T71.setTop (mkF m 119 #[.val (.int p0), .val (.int p1), .val (.int p2), .val (.int p3), .val (.int p4), .val (.int (4 : Int32)), .val (.int z1_s0), .val (.ref b59), .unset] [(.ref c71_mw)]))
    refine Goes.go (fun _ k => XS.astore X71.here hx rfl (hb hby at_119) rfl rfl (l' := #[.val (.int p0), .val (.int p1), .val (.int p2), .val (.int p3), .val (.int p4), .val (.int (4 : Int32)), .val (.int z1_s0), .val (.ref b59), .val (.ref c71_mw)]) rfl k) ?_
    show Goes p e below s _ _ _ (T71.setTop (mkF m 121 #[.val (.int p0), .val (.int p1), .val (.int p2), .val (.int p3), .val (.int p4), .val (.int (4 : Int32)), .val (.int z1_s0), .val (.ref b59), .val (.ref c71_mw)] []))
    refine Goes.go (fun _ k => XS.aload X71.here hx rfl (hb hby at_121) rfl rfl  k) ?_
    show Goes p e below s _ _ _ (T71.setTop (mkF m 123 #[.val (.int p0), .val (.int p1), .val (.int p2), .val (.int p3), .val (.int p4), .val (.int (4 : Int32)), .val (.int z1_s0), .val (.ref b59), .val (.ref c71_mw)] [(.ref c71_mw)]))
    refine Goes.go (fun _ k => XS.aload X71.here hx rfl (hb hby at_123) rfl rfl  k) ?_
    show Goes p e below s _ _ _ (T71.setTop (mkF m 125 #[.val (.int p0), .val (.int p1), .val (.int p2), .val (.int p3), .val (.int p4), .val (.int (4 : Int32)), .val (.int z1_s0), .val (.ref b59), .val (.ref c71_mw)] [(.ref b59), (.ref c71_mw)]))
    refine Goes.go (fun _ k => Jvm.RoadKit.acmp (g := (mkF m 125 #[.val (.int p0), .val (.int p1), .val (.int p2), .val (.int p3), .val (.int p4), .val (.int (4 : Int32)), .val (.int z1_s0), .val (.ref b59), .val (.ref c71_mw)] [(.ref b59), (.ref c71_mw)])) X71 hx rfl rfl rfl (pc0 := 125) (pc' := 130) (same := false) rfl (hb hby at_125) rfl (decide_eq_false fun q => (Ne.symm (Nat.ne_of_lt (Nat.lt_of_lt_of_le A70.lt sb_c71_mw))) (Value.ref.inj q)) (by decide) (by decide) k) ?_
    show Goes p e below s _ _ _ (T71.setTop (mkF m 130 #[.val (.int p0), .val (.int p1), .val (.int p2), .val (.int p3), .val (.int p4), .val (.int (4 : Int32)), .val (.int z1_s0), .val (.ref b59), .val (.ref c71_mw)] []))
    refine Goes.go (fun _ k => XS.aload X71.here hx rfl (hb hby at_130) rfl rfl  k) ?_
    show Goes p e below s _ _ _ (T71.setTop (mkF m 132 #[.val (.int p0), .val (.int p1), .val (.int p2), .val (.int p3), .val (.int p4), .val (.int (4 : Int32)), .val (.int z1_s0), .val (.ref b59), .val (.ref c71_mw)] [(.ref c71_mw)]))
    refine Goes.go (own_len X71 hx hZ e71 G71_0 (g := (mkF m 132 #[.val (.int p0), .val (.int p1), .val (.int p2), .val (.int p3), .val (.int p4), .val (.int (4 : Int32)), .val (.int z1_s0), .val (.ref b59), .val (.ref c71_mw)] [(.ref c71_mw)])) rfl rfl (hb hby at_132)) ?_
    show Goes p e below s _ _ _ (T71.setTop (mkF m 133 #[.val (.int p0), .val (.int p1), .val (.int p2), .val (.int p3), .val (.int p4), .val (.int (4 : Int32)), .val (.int z1_s0), .val (.ref b59), .val (.ref c71_mw)] [(.int (4 : Int32))]))
    refine Goes.go (fun _ k => XS.iload X71.here hx rfl (hb hby at_133) rfl  k) ?_
    show Goes p e below s _ _ _ (T71.setTop (mkF m 135 #[.val (.int p0), .val (.int p1), .val (.int p2), .val (.int p3), .val (.int p4), .val (.int (4 : Int32)), .val (.int z1_s0), .val (.ref b59), .val (.ref c71_mw)] [(.int (4 : Int32)), (.int (4 : Int32))]))
    have hc135_73 : (4 : Int32) = (4 : Int32) := (by decide)
    refine Goes.go (fun _ k => XS.icmpYes X71.here hx rfl (pc0 := 135) (pc' := 140) rfl (hb hby at_135) rfl (teq hc135_73).1 (by decide) (by decide) k) ?_
    show Goes p e below s _ _ _ (T71.setTop (mkF m 140 #[.val (.int p0), .val (.int p1), .val (.int p2), .val (.int p3), .val (.int p4), .val (.int (4 : Int32)), .val (.int z1_s0), .val (.ref b59), .val (.ref c71_mw)] []))
    refine Goes.go (fun _ k => XS.iconst X71.here hx rfl (hb hby at_140) k) ?_
    show Goes p e below s _ _ _ (T71.setTop (mkF m 141 #[.val (.int p0), .val (.int p1), .val (.int p2), .val (.int p3), .val (.int p4), .val (.int (4 : Int32)), .val (.int z1_s0), .val (.ref b59), .val (.ref c71_mw)] [(.int (0 : Int32))]))
    refine Goes.go (fun _ k => XS.iload X71.here hx rfl (hb hby at_141) rfl  k) ?_
    show Goes p e below s _ _ _ (T71.setTop (mkF m 143 #[.val (.int p0), .val (.int p1), .val (.int p2), .val (.int p3), .val (.int p4), .val (.int (4 : Int32)), .val (.int z1_s0), .val (.ref b59), .val (.ref c71_mw)] [(.int (4 : Int32)), (.int (0 : Int32))]))
    refine Goes.go (fun _ k => XS.iload X71.here hx rfl (hb hby at_143) rfl  k) ?_
    show Goes p e below s _ _ _ (T71.setTop (mkF m 145 #[.val (.int p0), .val (.int p1), .val (.int p2), .val (.int p3), .val (.int p4), .val (.int (4 : Int32)), .val (.int z1_s0), .val (.ref b59), .val (.ref c71_mw)] [(.int z1_s0), (.int (4 : Int32)), (.int (0 : Int32))]))
    refine Goes.go (fun _ k => XS.aload X71.here hx rfl (hb hby at_145) rfl rfl  k) ?_
    show Goes p e below s _ _ _ (T71.setTop (mkF m 147 #[.val (.int p0), .val (.int p1), .val (.int p2), .val (.int p3), .val (.int p4), .val (.int (4 : Int32)), .val (.int z1_s0), .val (.ref b59), .val (.ref c71_mw)] [(.ref b59), (.int z1_s0), (.int (4 : Int32)), (.int (0 : Int32))]))
    refine Goes.go (fun _ k => XS.aload X71.here hx rfl (hb hby at_147) rfl rfl  k) ?_
    show Goes p e below s _ _ _ (T71.setTop (mkF m 149 #[.val (.int p0), .val (.int p1), .val (.int p2), .val (.int p3), .val (.int p4), .val (.int (4 : Int32)), .val (.int z1_s0), .val (.ref b59), .val (.ref c71_mw)] [(.ref c71_mw), (.ref b59), (.int z1_s0), (.int (4 : Int32)), (.int (0 : Int32))]))
    refine Goes.go (fun _ k => XS.iloadN X71.here hx rfl (hb hby at_149) rfl  k) ?_
    show Goes p e below s _ _ _ (T71.setTop (mkF m 150 #[.val (.int p0), .val (.int p1), .val (.int p2), .val (.int p3), .val (.int p4), .val (.int (4 : Int32)), .val (.int z1_s0), .val (.ref b59), .val (.ref c71_mw)] [(.int p1), (.ref c71_mw), (.ref b59), (.int z1_s0), (.int (4 : Int32)), (.int (0 : Int32))]))
    refine Goes.go (fun _ k => XS.iloadN X71.here hx rfl (hb hby at_150) rfl  k) ?_
    show Goes p e below s _ _ _ (T71.setTop (mkF m 151 #[.val (.int p0), .val (.int p1), .val (.int p2), .val (.int p3), .val (.int p4), .val (.int (4 : Int32)), .val (.int z1_s0), .val (.ref b59), .val (.ref c71_mw)] [(.int p2), (.int p1), (.ref c71_mw), (.ref b59), (.int z1_s0), (.int (4 : Int32)), (.int (0 : Int32))]))
    refine Goes.go (fun _ k => XS.iloadN X71.here hx rfl (hb hby at_151) rfl  k) ?_
    show Goes p e below s _ _ _ (T71.setTop (mkF m 152 #[.val (.int p0), .val (.int p1), .val (.int p2), .val (.int p3), .val (.int p4), .val (.int (4 : Int32)), .val (.int z1_s0), .val (.ref b59), .val (.ref c71_mw)] [(.int p3), (.int p2), (.int p1), (.ref c71_mw), (.ref b59), (.int z1_s0), (.int (4 : Int32)), (.int (0 : Int32))]))
    refine Goes.go (fun _ k => XS.iload X71.here hx rfl (hb hby at_152) rfl  k) ?_
    show Goes p e below s _ _ _ (T71.setTop (mkF m 154 #[.val (.int p0), .val (.int p1), .val (.int p2), .val (.int p3), .val (.int p4), .val (.int (4 : Int32)), .val (.int z1_s0), .val (.ref b59), .val (.ref c71_mw)] [(.int p4), (.int p3), (.int p2), (.int p1), (.ref c71_mw), (.ref b59), (.int z1_s0), (.int (4 : Int32)), (.int (0 : Int32))]))
    obtain ⟨_, _, ⟨T74, L74, k74, n74⟩, -, X74, ⟨Lc74, hQ74, l74, y74, z74⟩, st74⟩ := Jvm.LawKit.callS X71 hx (y := (⟨"org/cardprobe/CheckCharacterWithWrongCheckPinLaw", "slotOk", "(IIZ[B[BIIII)Z"⟩ : MethodName)) hown (mvT hZ (hw _ (List.mem_of_getElem? (i := 21) rfl))) (mvT hZ (hw _ (List.mem_of_getElem? (i := 22) rfl))) (mvT hZ (hw _ (List.mem_of_getElem? (i := 3) rfl))) (mvT hZ (hw _ (List.mem_of_getElem? (i := 23) rfl))) (by decide) (backOf (W := 0) (rm4 l Z a0 hw [] (0 : Int32) (4 : Int32) z1_s0 b59 c71_mw p1 p2 p3 p4 4 (own_upd (own_upd (own_upd (own_upd (fun _ => 0) 0 (nar .byte (f1 (0 : Int32) (4 : Int32) z1_s0 p1 p2 p3 p4))) 1 (nar .byte (f1 (1 : Int32) (4 : Int32) z1_s0 p1 p2 p3 p4))) 2 (nar .byte (f1 (2 : Int32) (4 : Int32) z1_s0 p1 p2 p3 p4))) 3 (nar .byte (f1 (3 : Int32) (4 : Int32) z1_s0 p1 p2 p3 p4))) 4 (own_upd (own_upd (own_upd (own_upd (own_upd (fun _ => 0) 0 (nar .byte (f1 (0 : Int32) (4 : Int32) z1_s0 p1 p2 p3 p4))) 1 (nar .byte (f1 (1 : Int32) (4 : Int32) z1_s0 p1 p2 p3 p4))) 2 (nar .byte (f1 (2 : Int32) (4 : Int32) z1_s0 p1 p2 p3 p4))) 3 (nar .byte (f1 (3 : Int32) (4 : Int32) z1_s0 p1 p2 p3 p4))) (4 - 1) (nar .byte ((if ((own_upd (own_upd (own_upd (own_upd (fun _ => 0) 0 (nar .byte (f1 (0 : Int32) (4 : Int32) z1_s0 p1 p2 p3 p4))) 1 (nar .byte (f1 (1 : Int32) (4 : Int32) z1_s0 p1 p2 p3 p4))) 2 (nar .byte (f1 (2 : Int32) (4 : Int32) z1_s0 p1 p2 p3 p4))) 3 (nar .byte (f1 (3 : Int32) (4 : Int32) z1_s0 p1 p2 p3 p4))) (4 - 1)) = (0 : Int32) then (255 : Int32) else (0 : Int32)).toInt8.toInt32))) 0 h71 n0 Z71 (A70.keep Kq71 nin0) G71_0 rfl rfl rfl (by decide)) hZ (hw _ (List.mem_of_getElem? (i := 23) rfl)) (hw _ (List.mem_of_getElem? (i := 3) rfl)) (by decide) (by decide)) (g := (mkF m 154 #[.val (.int p0), .val (.int p1), .val (.int p2), .val (.int p3), .val (.int p4), .val (.int (4 : Int32)), .val (.int z1_s0), .val (.ref b59), .val (.ref c71_mw)] [(.int p4), (.int p3), (.int p2), (.int p1), (.ref c71_mw), (.ref b59), (.int z1_s0), (.int (4 : Int32)), (.int (0 : Int32))])) rfl (by rw [hml]; rfl) (argsL := [(.int (0 : Int32)), (.int (4 : Int32)), (.int z1_s0), (.ref b59), (.ref c71_mw), (.int p1), (.int p2), (.int p3), (.int p4)]) (rest := []) (lenOf pd_3 rfl) rfl (by show 2 * 0 + _ ≤ _; exact Nat.le_of_eq rfl) (hb hby at_154) (fun _ _ => ⟨rfl, e71, (by decide : 2 + 0 ≤ _), (by decide : 8 + 0 ≤ _)⟩)
    dsimp only [Pt.U, Pt.locs, Pt.cells, Pt.slots] at X74 l74 y74 z74 st74 hQ74
    subst l74 y74 z74
    obtain ⟨rfl, N74q, e74⟩ := hQ74
    have N74 := Fr.app N71 N74q
    refine Goes.go st74 ?_
    show Goes p e below s _ _ _ (T74.setTop (mkF m 157 #[.val (.int p0), .val (.int p1), .val (.int p2), .val (.int p3), .val (.int p4), .val (.int (4 : Int32)), .val (.int z1_s0), .val (.ref b59), .val (.ref c71_mw)] [(.int (f4 (0 : Int32) (4 : Int32) z1_s0 b59 c71_mw p1 p2 p3 p4 4 (own_upd (own_upd (own_upd (own_upd (fun _ => 0) 0 (nar .byte (f1 (0 : Int32) (4 : Int32) z1_s0 p1 p2 p3 p4))) 1 (nar .byte (f1 (1 : Int32) (4 : Int32) z1_s0 p1 p2 p3 p4))) 2 (nar .byte (f1 (2 : Int32) (4 : Int32) z1_s0 p1 p2 p3 p4))) 3 (nar .byte (f1 (3 : Int32) (4 : Int32) z1_s0 p1 p2 p3 p4))) 4 (own_upd (own_upd (own_upd (own_upd (own_upd (fun _ => 0) 0 (nar .byte (f1 (0 : Int32) (4 : Int32) z1_s0 p1 p2 p3 p4))) 1 (nar .byte (f1 (1 : Int32) (4 : Int32) z1_s0 p1 p2 p3 p4))) 2 (nar .byte (f1 (2 : Int32) (4 : Int32) z1_s0 p1 p2 p3 p4))) 3 (nar .byte (f1 (3 : Int32) (4 : Int32) z1_s0 p1 p2 p3 p4))) (4 - 1) (nar .byte ((if ((own_upd (own_upd (own_upd (own_upd (fun _ => 0) 0 (nar .byte (f1 (0 : Int32) (4 : Int32) z1_s0 p1 p2 p3 p4))) 1 (nar .byte (f1 (1 : Int32) (4 : Int32) z1_s0 p1 p2 p3 p4))) 2 (nar .byte (f1 (2 : Int32) (4 : Int32) z1_s0 p1 p2 p3 p4))) 3 (nar .byte (f1 (3 : Int32) (4 : Int32) z1_s0 p1 p2 p3 p4))) (4 - 1)) = (0 : Int32) then (255 : Int32) else (0 : Int32)).toInt8.toInt32))) 0))]))
    have hc157_75 : ¬ ((f4 (0 : Int32) (4 : Int32) z1_s0 b59 c71_mw p1 p2 p3 p4 4 (own_upd (own_upd (own_upd (own_upd (fun _ => 0) 0 (nar .byte (f1 (0 : Int32) (4 : Int32) z1_s0 p1 p2 p3 p4))) 1 (nar .byte (f1 (1 : Int32) (4 : Int32) z1_s0 p1 p2 p3 p4))) 2 (nar .byte (f1 (2 : Int32) (4 : Int32) z1_s0 p1 p2 p3 p4))) 3 (nar .byte (f1 (3 : Int32) (4 : Int32) z1_s0 p1 p2 p3 p4))) 4 (own_upd (own_upd (own_upd (own_upd (own_upd (fun _ => 0) 0 (nar .byte (f1 (0 : Int32) (4 : Int32) z1_s0 p1 p2 p3 p4))) 1 (nar .byte (f1 (1 : Int32) (4 : Int32) z1_s0 p1 p2 p3 p4))) 2 (nar .byte (f1 (2 : Int32) (4 : Int32) z1_s0 p1 p2 p3 p4))) 3 (nar .byte (f1 (3 : Int32) (4 : Int32) z1_s0 p1 p2 p3 p4))) (4 - 1) (nar .byte ((if ((own_upd (own_upd (own_upd (own_upd (fun _ => 0) 0 (nar .byte (f1 (0 : Int32) (4 : Int32) z1_s0 p1 p2 p3 p4))) 1 (nar .byte (f1 (1 : Int32) (4 : Int32) z1_s0 p1 p2 p3 p4))) 2 (nar .byte (f1 (2 : Int32) (4 : Int32) z1_s0 p1 p2 p3 p4))) 3 (nar .byte (f1 (3 : Int32) (4 : Int32) z1_s0 p1 p2 p3 p4))) (4 - 1)) = (0 : Int32) then (255 : Int32) else (0 : Int32)).toInt8.toInt32))) 0) = (0 : Int32)) := own_near (by decide) (by decide) (own_f1b _ _ _ _ _ _ _) (own_f1b _ _ _ _ _ _ _)
    refine Goes.go (fun _ k => XS.ifNo X74.here hx rfl (hb hby at_157) rfl ((if0 _ _).trans (feq hc157_75).1) k) ?_
    show Goes p e below s _ _ _ (T74.setTop (mkF m 160 #[.val (.int p0), .val (.int p1), .val (.int p2), .val (.int p3), .val (.int p4), .val (.int (4 : Int32)), .val (.int z1_s0), .val (.ref b59), .val (.ref c71_mw)] []))
    refine Goes.go (fun _ k => XS.iconst X74.here hx rfl (hb hby at_160) k) ?_
    show Goes p e below s _ _ _ (T74.setTop (mkF m 161 #[.val (.int p0), .val (.int p1), .val (.int p2), .val (.int p3), .val (.int p4), .val (.int (4 : Int32)), .val (.int z1_s0), .val (.ref b59), .val (.ref c71_mw)] [(.int (1 : Int32))]))
    refine Goes.go (fun _ k => XS.iload X74.here hx rfl (hb hby at_161) rfl  k) ?_
    show Goes p e below s _ _ _ (T74.setTop (mkF m 163 #[.val (.int p0), .val (.int p1), .val (.int p2), .val (.int p3), .val (.int p4), .val (.int (4 : Int32)), .val (.int z1_s0), .val (.ref b59), .val (.ref c71_mw)] [(.int (4 : Int32)), (.int (1 : Int32))]))
    refine Goes.go (fun _ k => XS.iload X74.here hx rfl (hb hby at_163) rfl  k) ?_
    show Goes p e below s _ _ _ (T74.setTop (mkF m 165 #[.val (.int p0), .val (.int p1), .val (.int p2), .val (.int p3), .val (.int p4), .val (.int (4 : Int32)), .val (.int z1_s0), .val (.ref b59), .val (.ref c71_mw)] [(.int z1_s0), (.int (4 : Int32)), (.int (1 : Int32))]))
    refine Goes.go (fun _ k => XS.aload X74.here hx rfl (hb hby at_165) rfl rfl  k) ?_
    show Goes p e below s _ _ _ (T74.setTop (mkF m 167 #[.val (.int p0), .val (.int p1), .val (.int p2), .val (.int p3), .val (.int p4), .val (.int (4 : Int32)), .val (.int z1_s0), .val (.ref b59), .val (.ref c71_mw)] [(.ref b59), (.int z1_s0), (.int (4 : Int32)), (.int (1 : Int32))]))
    refine Goes.go (fun _ k => XS.aload X74.here hx rfl (hb hby at_167) rfl rfl  k) ?_
    show Goes p e below s _ _ _ (T74.setTop (mkF m 169 #[.val (.int p0), .val (.int p1), .val (.int p2), .val (.int p3), .val (.int p4), .val (.int (4 : Int32)), .val (.int z1_s0), .val (.ref b59), .val (.ref c71_mw)] [(.ref c71_mw), (.ref b59), (.int z1_s0), (.int (4 : Int32)), (.int (1 : Int32))]))
    refine Goes.go (fun _ k => XS.iloadN X74.here hx rfl (hb hby at_169) rfl  k) ?_
    show Goes p e below s _ _ _ (T74.setTop (mkF m 170 #[.val (.int p0), .val (.int p1), .val (.int p2), .val (.int p3), .val (.int p4), .val (.int (4 : Int32)), .val (.int z1_s0), .val (.ref b59), .val (.ref c71_mw)] [(.int p1), (.ref c71_mw), (.ref b59), (.int z1_s0), (.int (4 : Int32)), (.int (1 : Int32))]))
    refine Goes.go (fun _ k => XS.iloadN X74.here hx rfl (hb hby at_170) rfl  k) ?_
    show Goes p e below s _ _ _ (T74.setTop (mkF m 171 #[.val (.int p0), .val (.int p1), .val (.int p2), .val (.int p3), .val (.int p4), .val (.int (4 : Int32)), .val (.int z1_s0), .val (.ref b59), .val (.ref c71_mw)] [(.int p2), (.int p1), (.ref c71_mw), (.ref b59), (.int z1_s0), (.int (4 : Int32)), (.int (1 : Int32))]))
    refine Goes.go (fun _ k => XS.iloadN X74.here hx rfl (hb hby at_171) rfl  k) ?_
    show Goes p e below s _ _ _ (T74.setTop (mkF m 172 #[.val (.int p0), .val (.int p1), .val (.int p2), .val (.int p3), .val (.int p4), .val (.int (4 : Int32)), .val (.int z1_s0), .val (.ref b59), .val (.ref c71_mw)] [(.int p3), (.int p2), (.int p1), (.ref c71_mw), (.ref b59), (.int z1_s0), (.int (4 : Int32)), (.int (1 : Int32))]))
    refine Goes.go (fun _ k => XS.iload X74.here hx rfl (hb hby at_172) rfl  k) ?_
    show Goes p e below s _ _ _ (T74.setTop (mkF m 174 #[.val (.int p0), .val (.int p1), .val (.int p2), .val (.int p3), .val (.int p4), .val (.int (4 : Int32)), .val (.int z1_s0), .val (.ref b59), .val (.ref c71_mw)] [(.int p4), (.int p3), (.int p2), (.int p1), (.ref c71_mw), (.ref b59), (.int z1_s0), (.int (4 : Int32)), (.int (1 : Int32))]))
    obtain ⟨_, _, ⟨T76, L76, k76, n76⟩, -, X76, ⟨Lc76, hQ76, l76, y76, z76⟩, st76⟩ := Jvm.LawKit.callS X74 hx (y := (⟨"org/cardprobe/CheckCharacterWithWrongCheckPinLaw", "slotOk", "(IIZ[B[BIIII)Z"⟩ : MethodName)) hown (mvT hZ (hw _ (List.mem_of_getElem? (i := 21) rfl))) (mvT hZ (hw _ (List.mem_of_getElem? (i := 22) rfl))) (mvT hZ (hw _ (List.mem_of_getElem? (i := 3) rfl))) (mvT hZ (hw _ (List.mem_of_getElem? (i := 23) rfl))) (by decide) (backOf (W := 0) (rm4 l Z a0 hw [] (1 : Int32) (4 : Int32) z1_s0 b59 c71_mw p1 p2 p3 p4 4 (own_upd (own_upd (own_upd (own_upd (fun _ => 0) 0 (nar .byte (f1 (0 : Int32) (4 : Int32) z1_s0 p1 p2 p3 p4))) 1 (nar .byte (f1 (1 : Int32) (4 : Int32) z1_s0 p1 p2 p3 p4))) 2 (nar .byte (f1 (2 : Int32) (4 : Int32) z1_s0 p1 p2 p3 p4))) 3 (nar .byte (f1 (3 : Int32) (4 : Int32) z1_s0 p1 p2 p3 p4))) 4 (own_upd (own_upd (own_upd (own_upd (own_upd (fun _ => 0) 0 (nar .byte (f1 (0 : Int32) (4 : Int32) z1_s0 p1 p2 p3 p4))) 1 (nar .byte (f1 (1 : Int32) (4 : Int32) z1_s0 p1 p2 p3 p4))) 2 (nar .byte (f1 (2 : Int32) (4 : Int32) z1_s0 p1 p2 p3 p4))) 3 (nar .byte (f1 (3 : Int32) (4 : Int32) z1_s0 p1 p2 p3 p4))) (4 - 1) (nar .byte ((if ((own_upd (own_upd (own_upd (own_upd (fun _ => 0) 0 (nar .byte (f1 (0 : Int32) (4 : Int32) z1_s0 p1 p2 p3 p4))) 1 (nar .byte (f1 (1 : Int32) (4 : Int32) z1_s0 p1 p2 p3 p4))) 2 (nar .byte (f1 (2 : Int32) (4 : Int32) z1_s0 p1 p2 p3 p4))) 3 (nar .byte (f1 (3 : Int32) (4 : Int32) z1_s0 p1 p2 p3 p4))) (4 - 1)) = (0 : Int32) then (255 : Int32) else (0 : Int32)).toInt8.toInt32))) 1 h71 n0 Z71 (A70.keep Kq71 nin0) G71_0 rfl rfl rfl (by decide)) hZ (hw _ (List.mem_of_getElem? (i := 23) rfl)) (hw _ (List.mem_of_getElem? (i := 3) rfl)) (by decide) (by decide)) (g := (mkF m 174 #[.val (.int p0), .val (.int p1), .val (.int p2), .val (.int p3), .val (.int p4), .val (.int (4 : Int32)), .val (.int z1_s0), .val (.ref b59), .val (.ref c71_mw)] [(.int p4), (.int p3), (.int p2), (.int p1), (.ref c71_mw), (.ref b59), (.int z1_s0), (.int (4 : Int32)), (.int (1 : Int32))])) rfl (by rw [hml]; rfl) (argsL := [(.int (1 : Int32)), (.int (4 : Int32)), (.int z1_s0), (.ref b59), (.ref c71_mw), (.int p1), (.int p2), (.int p3), (.int p4)]) (rest := []) (lenOf pd_3 rfl) rfl (by show 2 * 0 + _ ≤ _; exact Nat.le_of_eq rfl) (hb hby at_174) (fun _ _ => ⟨rfl, e74, (by decide : 2 + 0 ≤ _), (by decide : 8 + 0 ≤ _)⟩)
    dsimp only [Pt.U, Pt.locs, Pt.cells, Pt.slots] at X76 l76 y76 z76 st76 hQ76
    subst l76 y76 z76
    obtain ⟨rfl, N76q, e76⟩ := hQ76
    have N76 := Fr.app N74 N76q
    refine Goes.go st76 ?_
    show Goes p e below s _ _ _ (T76.setTop (mkF m 177 #[.val (.int p0), .val (.int p1), .val (.int p2), .val (.int p3), .val (.int p4), .val (.int (4 : Int32)), .val (.int z1_s0), .val (.ref b59), .val (.ref c71_mw)] [(.int (f4 (1 : Int32) (4 : Int32) z1_s0 b59 c71_mw p1 p2 p3 p4 4 (own_upd (own_upd (own_upd (own_upd (fun _ => 0) 0 (nar .byte (f1 (0 : Int32) (4 : Int32) z1_s0 p1 p2 p3 p4))) 1 (nar .byte (f1 (1 : Int32) (4 : Int32) z1_s0 p1 p2 p3 p4))) 2 (nar .byte (f1 (2 : Int32) (4 : Int32) z1_s0 p1 p2 p3 p4))) 3 (nar .byte (f1 (3 : Int32) (4 : Int32) z1_s0 p1 p2 p3 p4))) 4 (own_upd (own_upd (own_upd (own_upd (own_upd (fun _ => 0) 0 (nar .byte (f1 (0 : Int32) (4 : Int32) z1_s0 p1 p2 p3 p4))) 1 (nar .byte (f1 (1 : Int32) (4 : Int32) z1_s0 p1 p2 p3 p4))) 2 (nar .byte (f1 (2 : Int32) (4 : Int32) z1_s0 p1 p2 p3 p4))) 3 (nar .byte (f1 (3 : Int32) (4 : Int32) z1_s0 p1 p2 p3 p4))) (4 - 1) (nar .byte ((if ((own_upd (own_upd (own_upd (own_upd (fun _ => 0) 0 (nar .byte (f1 (0 : Int32) (4 : Int32) z1_s0 p1 p2 p3 p4))) 1 (nar .byte (f1 (1 : Int32) (4 : Int32) z1_s0 p1 p2 p3 p4))) 2 (nar .byte (f1 (2 : Int32) (4 : Int32) z1_s0 p1 p2 p3 p4))) 3 (nar .byte (f1 (3 : Int32) (4 : Int32) z1_s0 p1 p2 p3 p4))) (4 - 1)) = (0 : Int32) then (255 : Int32) else (0 : Int32)).toInt8.toInt32))) 1))]))
    have hc177_77 : ¬ ((f4 (1 : Int32) (4 : Int32) z1_s0 b59 c71_mw p1 p2 p3 p4 4 (own_upd (own_upd (own_upd (own_upd (fun _ => 0) 0 (nar .byte (f1 (0 : Int32) (4 : Int32) z1_s0 p1 p2 p3 p4))) 1 (nar .byte (f1 (1 : Int32) (4 : Int32) z1_s0 p1 p2 p3 p4))) 2 (nar .byte (f1 (2 : Int32) (4 : Int32) z1_s0 p1 p2 p3 p4))) 3 (nar .byte (f1 (3 : Int32) (4 : Int32) z1_s0 p1 p2 p3 p4))) 4 (own_upd (own_upd (own_upd (own_upd (own_upd (fun _ => 0) 0 (nar .byte (f1 (0 : Int32) (4 : Int32) z1_s0 p1 p2 p3 p4))) 1 (nar .byte (f1 (1 : Int32) (4 : Int32) z1_s0 p1 p2 p3 p4))) 2 (nar .byte (f1 (2 : Int32) (4 : Int32) z1_s0 p1 p2 p3 p4))) 3 (nar .byte (f1 (3 : Int32) (4 : Int32) z1_s0 p1 p2 p3 p4))) (4 - 1) (nar .byte ((if ((own_upd (own_upd (own_upd (own_upd (fun _ => 0) 0 (nar .byte (f1 (0 : Int32) (4 : Int32) z1_s0 p1 p2 p3 p4))) 1 (nar .byte (f1 (1 : Int32) (4 : Int32) z1_s0 p1 p2 p3 p4))) 2 (nar .byte (f1 (2 : Int32) (4 : Int32) z1_s0 p1 p2 p3 p4))) 3 (nar .byte (f1 (3 : Int32) (4 : Int32) z1_s0 p1 p2 p3 p4))) (4 - 1)) = (0 : Int32) then (255 : Int32) else (0 : Int32)).toInt8.toInt32))) 1) = (0 : Int32)) := own_near (by decide) (by decide) (own_f1b _ _ _ _ _ _ _) (own_f1b _ _ _ _ _ _ _)
    refine Goes.go (fun _ k => XS.ifNo X76.here hx rfl (hb hby at_177) rfl ((if0 _ _).trans (feq hc177_77).1) k) ?_
    show Goes p e below s _ _ _ (T76.setTop (mkF m 180 #[.val (.int p0), .val (.int p1), .val (.int p2), .val (.int p3), .val (.int p4), .val (.int (4 : Int32)), .val (.int z1_s0), .val (.ref b59), .val (.ref c71_mw)] []))
    refine Goes.go (fun _ k => XS.iconst X76.here hx rfl (hb hby at_180) k) ?_
    show Goes p e below s _ _ _ (T76.setTop (mkF m 181 #[.val (.int p0), .val (.int p1), .val (.int p2), .val (.int p3), .val (.int p4), .val (.int (4 : Int32)), .val (.int z1_s0), .val (.ref b59), .val (.ref c71_mw)] [(.int (2 : Int32))]))
    refine Goes.go (fun _ k => XS.iload X76.here hx rfl (hb hby at_181) rfl  k) ?_
    show Goes p e below s _ _ _ (T76.setTop (mkF m 183 #[.val (.int p0), .val (.int p1), .val (.int p2), .val (.int p3), .val (.int p4), .val (.int (4 : Int32)), .val (.int z1_s0), .val (.ref b59), .val (.ref c71_mw)] [(.int (4 : Int32)), (.int (2 : Int32))]))
    refine Goes.go (fun _ k => XS.iload X76.here hx rfl (hb hby at_183) rfl  k) ?_
    show Goes p e below s _ _ _ (T76.setTop (mkF m 185 #[.val (.int p0), .val (.int p1), .val (.int p2), .val (.int p3), .val (.int p4), .val (.int (4 : Int32)), .val (.int z1_s0), .val (.ref b59), .val (.ref c71_mw)] [(.int z1_s0), (.int (4 : Int32)), (.int (2 : Int32))]))
    refine Goes.go (fun _ k => XS.aload X76.here hx rfl (hb hby at_185) rfl rfl  k) ?_
    show Goes p e below s _ _ _ (T76.setTop (mkF m 187 #[.val (.int p0), .val (.int p1), .val (.int p2), .val (.int p3), .val (.int p4), .val (.int (4 : Int32)), .val (.int z1_s0), .val (.ref b59), .val (.ref c71_mw)] [(.ref b59), (.int z1_s0), (.int (4 : Int32)), (.int (2 : Int32))]))
    refine Goes.go (fun _ k => XS.aload X76.here hx rfl (hb hby at_187) rfl rfl  k) ?_
    show Goes p e below s _ _ _ (T76.setTop (mkF m 189 #[.val (.int p0), .val (.int p1), .val (.int p2), .val (.int p3), .val (.int p4), .val (.int (4 : Int32)), .val (.int z1_s0), .val (.ref b59), .val (.ref c71_mw)] [(.ref c71_mw), (.ref b59), (.int z1_s0), (.int (4 : Int32)), (.int (2 : Int32))]))
    refine Goes.go (fun _ k => XS.iloadN X76.here hx rfl (hb hby at_189) rfl  k) ?_
    show Goes p e below s _ _ _ (T76.setTop (mkF m 190 #[.val (.int p0), .val (.int p1), .val (.int p2), .val (.int p3), .val (.int p4), .val (.int (4 : Int32)), .val (.int z1_s0), .val (.ref b59), .val (.ref c71_mw)] [(.int p1), (.ref c71_mw), (.ref b59), (.int z1_s0), (.int (4 : Int32)), (.int (2 : Int32))]))
    refine Goes.go (fun _ k => XS.iloadN X76.here hx rfl (hb hby at_190) rfl  k) ?_
    show Goes p e below s _ _ _ (T76.setTop (mkF m 191 #[.val (.int p0), .val (.int p1), .val (.int p2), .val (.int p3), .val (.int p4), .val (.int (4 : Int32)), .val (.int z1_s0), .val (.ref b59), .val (.ref c71_mw)] [(.int p2), (.int p1), (.ref c71_mw), (.ref b59), (.int z1_s0), (.int (4 : Int32)), (.int (2 : Int32))]))
    refine Goes.go (fun _ k => XS.iloadN X76.here hx rfl (hb hby at_191) rfl  k) ?_
    show Goes p e below s _ _ _ (T76.setTop (mkF m 192 #[.val (.int p0), .val (.int p1), .val (.int p2), .val (.int p3), .val (.int p4), .val (.int (4 : Int32)), .val (.int z1_s0), .val (.ref b59), .val (.ref c71_mw)] [(.int p3), (.int p2), (.int p1), (.ref c71_mw), (.ref b59), (.int z1_s0), (.int (4 : Int32)), (.int (2 : Int32))]))
    refine Goes.go (fun _ k => XS.iload X76.here hx rfl (hb hby at_192) rfl  k) ?_
    show Goes p e below s _ _ _ (T76.setTop (mkF m 194 #[.val (.int p0), .val (.int p1), .val (.int p2), .val (.int p3), .val (.int p4), .val (.int (4 : Int32)), .val (.int z1_s0), .val (.ref b59), .val (.ref c71_mw)] [(.int p4), (.int p3), (.int p2), (.int p1), (.ref c71_mw), (.ref b59), (.int z1_s0), (.int (4 : Int32)), (.int (2 : Int32))]))
    obtain ⟨_, _, ⟨T78, L78, k78, n78⟩, -, X78, ⟨Lc78, hQ78, l78, y78, z78⟩, st78⟩ := Jvm.LawKit.callS X76 hx (y := (⟨"org/cardprobe/CheckCharacterWithWrongCheckPinLaw", "slotOk", "(IIZ[B[BIIII)Z"⟩ : MethodName)) hown (mvT hZ (hw _ (List.mem_of_getElem? (i := 21) rfl))) (mvT hZ (hw _ (List.mem_of_getElem? (i := 22) rfl))) (mvT hZ (hw _ (List.mem_of_getElem? (i := 3) rfl))) (mvT hZ (hw _ (List.mem_of_getElem? (i := 23) rfl))) (by decide) (backOf (W := 0) (rm4 l Z a0 hw [] (2 : Int32) (4 : Int32) z1_s0 b59 c71_mw p1 p2 p3 p4 4 (own_upd (own_upd (own_upd (own_upd (fun _ => 0) 0 (nar .byte (f1 (0 : Int32) (4 : Int32) z1_s0 p1 p2 p3 p4))) 1 (nar .byte (f1 (1 : Int32) (4 : Int32) z1_s0 p1 p2 p3 p4))) 2 (nar .byte (f1 (2 : Int32) (4 : Int32) z1_s0 p1 p2 p3 p4))) 3 (nar .byte (f1 (3 : Int32) (4 : Int32) z1_s0 p1 p2 p3 p4))) 4 (own_upd (own_upd (own_upd (own_upd (own_upd (fun _ => 0) 0 (nar .byte (f1 (0 : Int32) (4 : Int32) z1_s0 p1 p2 p3 p4))) 1 (nar .byte (f1 (1 : Int32) (4 : Int32) z1_s0 p1 p2 p3 p4))) 2 (nar .byte (f1 (2 : Int32) (4 : Int32) z1_s0 p1 p2 p3 p4))) 3 (nar .byte (f1 (3 : Int32) (4 : Int32) z1_s0 p1 p2 p3 p4))) (4 - 1) (nar .byte ((if ((own_upd (own_upd (own_upd (own_upd (fun _ => 0) 0 (nar .byte (f1 (0 : Int32) (4 : Int32) z1_s0 p1 p2 p3 p4))) 1 (nar .byte (f1 (1 : Int32) (4 : Int32) z1_s0 p1 p2 p3 p4))) 2 (nar .byte (f1 (2 : Int32) (4 : Int32) z1_s0 p1 p2 p3 p4))) 3 (nar .byte (f1 (3 : Int32) (4 : Int32) z1_s0 p1 p2 p3 p4))) (4 - 1)) = (0 : Int32) then (255 : Int32) else (0 : Int32)).toInt8.toInt32))) 2 h71 n0 Z71 (A70.keep Kq71 nin0) G71_0 rfl rfl rfl (by decide)) hZ (hw _ (List.mem_of_getElem? (i := 23) rfl)) (hw _ (List.mem_of_getElem? (i := 3) rfl)) (by decide) (by decide)) (g := (mkF m 194 #[.val (.int p0), .val (.int p1), .val (.int p2), .val (.int p3), .val (.int p4), .val (.int (4 : Int32)), .val (.int z1_s0), .val (.ref b59), .val (.ref c71_mw)] [(.int p4), (.int p3), (.int p2), (.int p1), (.ref c71_mw), (.ref b59), (.int z1_s0), (.int (4 : Int32)), (.int (2 : Int32))])) rfl (by rw [hml]; rfl) (argsL := [(.int (2 : Int32)), (.int (4 : Int32)), (.int z1_s0), (.ref b59), (.ref c71_mw), (.int p1), (.int p2), (.int p3), (.int p4)]) (rest := []) (lenOf pd_3 rfl) rfl (by show 2 * 0 + _ ≤ _; exact Nat.le_of_eq rfl) (hb hby at_194) (fun _ _ => ⟨rfl, e76, (by decide : 2 + 0 ≤ _), (by decide : 8 + 0 ≤ _)⟩)
    dsimp only [Pt.U, Pt.locs, Pt.cells, Pt.slots] at X78 l78 y78 z78 st78 hQ78
    subst l78 y78 z78
    obtain ⟨rfl, N78q, e78⟩ := hQ78
    have N78 := Fr.app N76 N78q
    refine Goes.go st78 ?_
    show Goes p e below s _ _ _ (T78.setTop (mkF m 197 #[.val (.int p0), .val (.int p1), .val (.int p2), .val (.int p3), .val (.int p4), .val (.int (4 : Int32)), .val (.int z1_s0), .val (.ref b59), .val (.ref c71_mw)] [(.int (f4 (2 : Int32) (4 : Int32) z1_s0 b59 c71_mw p1 p2 p3 p4 4 (own_upd (own_upd (own_upd (own_upd (fun _ => 0) 0 (nar .byte (f1 (0 : Int32) (4 : Int32) z1_s0 p1 p2 p3 p4))) 1 (nar .byte (f1 (1 : Int32) (4 : Int32) z1_s0 p1 p2 p3 p4))) 2 (nar .byte (f1 (2 : Int32) (4 : Int32) z1_s0 p1 p2 p3 p4))) 3 (nar .byte (f1 (3 : Int32) (4 : Int32) z1_s0 p1 p2 p3 p4))) 4 (own_upd (own_upd (own_upd (own_upd (own_upd (fun _ => 0) 0 (nar .byte (f1 (0 : Int32) (4 : Int32) z1_s0 p1 p2 p3 p4))) 1 (nar .byte (f1 (1 : Int32) (4 : Int32) z1_s0 p1 p2 p3 p4))) 2 (nar .byte (f1 (2 : Int32) (4 : Int32) z1_s0 p1 p2 p3 p4))) 3 (nar .byte (f1 (3 : Int32) (4 : Int32) z1_s0 p1 p2 p3 p4))) (4 - 1) (nar .byte ((if ((own_upd (own_upd (own_upd (own_upd (fun _ => 0) 0 (nar .byte (f1 (0 : Int32) (4 : Int32) z1_s0 p1 p2 p3 p4))) 1 (nar .byte (f1 (1 : Int32) (4 : Int32) z1_s0 p1 p2 p3 p4))) 2 (nar .byte (f1 (2 : Int32) (4 : Int32) z1_s0 p1 p2 p3 p4))) 3 (nar .byte (f1 (3 : Int32) (4 : Int32) z1_s0 p1 p2 p3 p4))) (4 - 1)) = (0 : Int32) then (255 : Int32) else (0 : Int32)).toInt8.toInt32))) 2))]))
    have hc197_79 : ¬ ((f4 (2 : Int32) (4 : Int32) z1_s0 b59 c71_mw p1 p2 p3 p4 4 (own_upd (own_upd (own_upd (own_upd (fun _ => 0) 0 (nar .byte (f1 (0 : Int32) (4 : Int32) z1_s0 p1 p2 p3 p4))) 1 (nar .byte (f1 (1 : Int32) (4 : Int32) z1_s0 p1 p2 p3 p4))) 2 (nar .byte (f1 (2 : Int32) (4 : Int32) z1_s0 p1 p2 p3 p4))) 3 (nar .byte (f1 (3 : Int32) (4 : Int32) z1_s0 p1 p2 p3 p4))) 4 (own_upd (own_upd (own_upd (own_upd (own_upd (fun _ => 0) 0 (nar .byte (f1 (0 : Int32) (4 : Int32) z1_s0 p1 p2 p3 p4))) 1 (nar .byte (f1 (1 : Int32) (4 : Int32) z1_s0 p1 p2 p3 p4))) 2 (nar .byte (f1 (2 : Int32) (4 : Int32) z1_s0 p1 p2 p3 p4))) 3 (nar .byte (f1 (3 : Int32) (4 : Int32) z1_s0 p1 p2 p3 p4))) (4 - 1) (nar .byte ((if ((own_upd (own_upd (own_upd (own_upd (fun _ => 0) 0 (nar .byte (f1 (0 : Int32) (4 : Int32) z1_s0 p1 p2 p3 p4))) 1 (nar .byte (f1 (1 : Int32) (4 : Int32) z1_s0 p1 p2 p3 p4))) 2 (nar .byte (f1 (2 : Int32) (4 : Int32) z1_s0 p1 p2 p3 p4))) 3 (nar .byte (f1 (3 : Int32) (4 : Int32) z1_s0 p1 p2 p3 p4))) (4 - 1)) = (0 : Int32) then (255 : Int32) else (0 : Int32)).toInt8.toInt32))) 2) = (0 : Int32)) := own_near (by decide) (by decide) (own_f1b _ _ _ _ _ _ _) (own_f1b _ _ _ _ _ _ _)
    refine Goes.go (fun _ k => XS.ifNo X78.here hx rfl (hb hby at_197) rfl ((if0 _ _).trans (feq hc197_79).1) k) ?_
    show Goes p e below s _ _ _ (T78.setTop (mkF m 200 #[.val (.int p0), .val (.int p1), .val (.int p2), .val (.int p3), .val (.int p4), .val (.int (4 : Int32)), .val (.int z1_s0), .val (.ref b59), .val (.ref c71_mw)] []))
    refine Goes.go (fun _ k => XS.iconst X78.here hx rfl (hb hby at_200) k) ?_
    show Goes p e below s _ _ _ (T78.setTop (mkF m 201 #[.val (.int p0), .val (.int p1), .val (.int p2), .val (.int p3), .val (.int p4), .val (.int (4 : Int32)), .val (.int z1_s0), .val (.ref b59), .val (.ref c71_mw)] [(.int (3 : Int32))]))
    refine Goes.go (fun _ k => XS.iload X78.here hx rfl (hb hby at_201) rfl  k) ?_
    show Goes p e below s _ _ _ (T78.setTop (mkF m 203 #[.val (.int p0), .val (.int p1), .val (.int p2), .val (.int p3), .val (.int p4), .val (.int (4 : Int32)), .val (.int z1_s0), .val (.ref b59), .val (.ref c71_mw)] [(.int (4 : Int32)), (.int (3 : Int32))]))
    refine Goes.go (fun _ k => XS.iload X78.here hx rfl (hb hby at_203) rfl  k) ?_
    show Goes p e below s _ _ _ (T78.setTop (mkF m 205 #[.val (.int p0), .val (.int p1), .val (.int p2), .val (.int p3), .val (.int p4), .val (.int (4 : Int32)), .val (.int z1_s0), .val (.ref b59), .val (.ref c71_mw)] [(.int z1_s0), (.int (4 : Int32)), (.int (3 : Int32))]))
    refine Goes.go (fun _ k => XS.aload X78.here hx rfl (hb hby at_205) rfl rfl  k) ?_
    show Goes p e below s _ _ _ (T78.setTop (mkF m 207 #[.val (.int p0), .val (.int p1), .val (.int p2), .val (.int p3), .val (.int p4), .val (.int (4 : Int32)), .val (.int z1_s0), .val (.ref b59), .val (.ref c71_mw)] [(.ref b59), (.int z1_s0), (.int (4 : Int32)), (.int (3 : Int32))]))
    refine Goes.go (fun _ k => XS.aload X78.here hx rfl (hb hby at_207) rfl rfl  k) ?_
    show Goes p e below s _ _ _ (T78.setTop (mkF m 209 #[.val (.int p0), .val (.int p1), .val (.int p2), .val (.int p3), .val (.int p4), .val (.int (4 : Int32)), .val (.int z1_s0), .val (.ref b59), .val (.ref c71_mw)] [(.ref c71_mw), (.ref b59), (.int z1_s0), (.int (4 : Int32)), (.int (3 : Int32))]))
    refine Goes.go (fun _ k => XS.iloadN X78.here hx rfl (hb hby at_209) rfl  k) ?_
    show Goes p e below s _ _ _ (T78.setTop (mkF m 210 #[.val (.int p0), .val (.int p1), .val (.int p2), .val (.int p3), .val (.int p4), .val (.int (4 : Int32)), .val (.int z1_s0), .val (.ref b59), .val (.ref c71_mw)] [(.int p1), (.ref c71_mw), (.ref b59), (.int z1_s0), (.int (4 : Int32)), (.int (3 : Int32))]))
    refine Goes.go (fun _ k => XS.iloadN X78.here hx rfl (hb hby at_210) rfl  k) ?_
    show Goes p e below s _ _ _ (T78.setTop (mkF m 211 #[.val (.int p0), .val (.int p1), .val (.int p2), .val (.int p3), .val (.int p4), .val (.int (4 : Int32)), .val (.int z1_s0), .val (.ref b59), .val (.ref c71_mw)] [(.int p2), (.int p1), (.ref c71_mw), (.ref b59), (.int z1_s0), (.int (4 : Int32)), (.int (3 : Int32))]))
    refine Goes.go (fun _ k => XS.iloadN X78.here hx rfl (hb hby at_211) rfl  k) ?_
    show Goes p e below s _ _ _ (T78.setTop (mkF m 212 #[.val (.int p0), .val (.int p1), .val (.int p2), .val (.int p3), .val (.int p4), .val (.int (4 : Int32)), .val (.int z1_s0), .val (.ref b59), .val (.ref c71_mw)] [(.int p3), (.int p2), (.int p1), (.ref c71_mw), (.ref b59), (.int z1_s0), (.int (4 : Int32)), (.int (3 : Int32))]))
    refine Goes.go (fun _ k => XS.iload X78.here hx rfl (hb hby at_212) rfl  k) ?_
    show Goes p e below s _ _ _ (T78.setTop (mkF m 214 #[.val (.int p0), .val (.int p1), .val (.int p2), .val (.int p3), .val (.int p4), .val (.int (4 : Int32)), .val (.int z1_s0), .val (.ref b59), .val (.ref c71_mw)] [(.int p4), (.int p3), (.int p2), (.int p1), (.ref c71_mw), (.ref b59), (.int z1_s0), (.int (4 : Int32)), (.int (3 : Int32))]))
    obtain ⟨_, _, ⟨T80, L80, k80, n80⟩, -, X80, ⟨Lc80, hQ80, l80, y80, z80⟩, st80⟩ := Jvm.LawKit.callS X78 hx (y := (⟨"org/cardprobe/CheckCharacterWithWrongCheckPinLaw", "slotOk", "(IIZ[B[BIIII)Z"⟩ : MethodName)) hown (mvT hZ (hw _ (List.mem_of_getElem? (i := 21) rfl))) (mvT hZ (hw _ (List.mem_of_getElem? (i := 22) rfl))) (mvT hZ (hw _ (List.mem_of_getElem? (i := 3) rfl))) (mvT hZ (hw _ (List.mem_of_getElem? (i := 23) rfl))) (by decide) (backOf (W := 0) (rm4 l Z a0 hw [] (3 : Int32) (4 : Int32) z1_s0 b59 c71_mw p1 p2 p3 p4 4 (own_upd (own_upd (own_upd (own_upd (fun _ => 0) 0 (nar .byte (f1 (0 : Int32) (4 : Int32) z1_s0 p1 p2 p3 p4))) 1 (nar .byte (f1 (1 : Int32) (4 : Int32) z1_s0 p1 p2 p3 p4))) 2 (nar .byte (f1 (2 : Int32) (4 : Int32) z1_s0 p1 p2 p3 p4))) 3 (nar .byte (f1 (3 : Int32) (4 : Int32) z1_s0 p1 p2 p3 p4))) 4 (own_upd (own_upd (own_upd (own_upd (own_upd (fun _ => 0) 0 (nar .byte (f1 (0 : Int32) (4 : Int32) z1_s0 p1 p2 p3 p4))) 1 (nar .byte (f1 (1 : Int32) (4 : Int32) z1_s0 p1 p2 p3 p4))) 2 (nar .byte (f1 (2 : Int32) (4 : Int32) z1_s0 p1 p2 p3 p4))) 3 (nar .byte (f1 (3 : Int32) (4 : Int32) z1_s0 p1 p2 p3 p4))) (4 - 1) (nar .byte ((if ((own_upd (own_upd (own_upd (own_upd (fun _ => 0) 0 (nar .byte (f1 (0 : Int32) (4 : Int32) z1_s0 p1 p2 p3 p4))) 1 (nar .byte (f1 (1 : Int32) (4 : Int32) z1_s0 p1 p2 p3 p4))) 2 (nar .byte (f1 (2 : Int32) (4 : Int32) z1_s0 p1 p2 p3 p4))) 3 (nar .byte (f1 (3 : Int32) (4 : Int32) z1_s0 p1 p2 p3 p4))) (4 - 1)) = (0 : Int32) then (255 : Int32) else (0 : Int32)).toInt8.toInt32))) 3 h71 n0 Z71 (A70.keep Kq71 nin0) G71_0 rfl rfl rfl (by decide)) hZ (hw _ (List.mem_of_getElem? (i := 23) rfl)) (hw _ (List.mem_of_getElem? (i := 3) rfl)) (by decide) (by decide)) (g := (mkF m 214 #[.val (.int p0), .val (.int p1), .val (.int p2), .val (.int p3), .val (.int p4), .val (.int (4 : Int32)), .val (.int z1_s0), .val (.ref b59), .val (.ref c71_mw)] [(.int p4), (.int p3), (.int p2), (.int p1), (.ref c71_mw), (.ref b59), (.int z1_s0), (.int (4 : Int32)), (.int (3 : Int32))])) rfl (by rw [hml]; rfl) (argsL := [(.int (3 : Int32)), (.int (4 : Int32)), (.int z1_s0), (.ref b59), (.ref c71_mw), (.int p1), (.int p2), (.int p3), (.int p4)]) (rest := []) (lenOf pd_3 rfl) rfl (by show 2 * 0 + _ ≤ _; exact Nat.le_of_eq rfl) (hb hby at_214) (fun _ _ => ⟨rfl, e78, (by decide : 2 + 0 ≤ _), (by decide : 8 + 0 ≤ _)⟩)
    dsimp only [Pt.U, Pt.locs, Pt.cells, Pt.slots] at X80 l80 y80 z80 st80 hQ80
    subst l80 y80 z80
    obtain ⟨rfl, N80q, e80⟩ := hQ80
    have N80 := Fr.app N78 N80q
    refine Goes.go st80 ?_
    show Goes p e below s _ _ _ (T80.setTop (mkF m 217 #[.val (.int p0), .val (.int p1), .val (.int p2), .val (.int p3), .val (.int p4), .val (.int (4 : Int32)), .val (.int z1_s0), .val (.ref b59), .val (.ref c71_mw)] [(.int (f4 (3 : Int32) (4 : Int32) z1_s0 b59 c71_mw p1 p2 p3 p4 4 (own_upd (own_upd (own_upd (own_upd (fun _ => 0) 0 (nar .byte (f1 (0 : Int32) (4 : Int32) z1_s0 p1 p2 p3 p4))) 1 (nar .byte (f1 (1 : Int32) (4 : Int32) z1_s0 p1 p2 p3 p4))) 2 (nar .byte (f1 (2 : Int32) (4 : Int32) z1_s0 p1 p2 p3 p4))) 3 (nar .byte (f1 (3 : Int32) (4 : Int32) z1_s0 p1 p2 p3 p4))) 4 (own_upd (own_upd (own_upd (own_upd (own_upd (fun _ => 0) 0 (nar .byte (f1 (0 : Int32) (4 : Int32) z1_s0 p1 p2 p3 p4))) 1 (nar .byte (f1 (1 : Int32) (4 : Int32) z1_s0 p1 p2 p3 p4))) 2 (nar .byte (f1 (2 : Int32) (4 : Int32) z1_s0 p1 p2 p3 p4))) 3 (nar .byte (f1 (3 : Int32) (4 : Int32) z1_s0 p1 p2 p3 p4))) (4 - 1) (nar .byte ((if ((own_upd (own_upd (own_upd (own_upd (fun _ => 0) 0 (nar .byte (f1 (0 : Int32) (4 : Int32) z1_s0 p1 p2 p3 p4))) 1 (nar .byte (f1 (1 : Int32) (4 : Int32) z1_s0 p1 p2 p3 p4))) 2 (nar .byte (f1 (2 : Int32) (4 : Int32) z1_s0 p1 p2 p3 p4))) 3 (nar .byte (f1 (3 : Int32) (4 : Int32) z1_s0 p1 p2 p3 p4))) (4 - 1)) = (0 : Int32) then (255 : Int32) else (0 : Int32)).toInt8.toInt32))) 3))]))
    have hc217_81 : ¬ ((f4 (3 : Int32) (4 : Int32) z1_s0 b59 c71_mw p1 p2 p3 p4 4 (own_upd (own_upd (own_upd (own_upd (fun _ => 0) 0 (nar .byte (f1 (0 : Int32) (4 : Int32) z1_s0 p1 p2 p3 p4))) 1 (nar .byte (f1 (1 : Int32) (4 : Int32) z1_s0 p1 p2 p3 p4))) 2 (nar .byte (f1 (2 : Int32) (4 : Int32) z1_s0 p1 p2 p3 p4))) 3 (nar .byte (f1 (3 : Int32) (4 : Int32) z1_s0 p1 p2 p3 p4))) 4 (own_upd (own_upd (own_upd (own_upd (own_upd (fun _ => 0) 0 (nar .byte (f1 (0 : Int32) (4 : Int32) z1_s0 p1 p2 p3 p4))) 1 (nar .byte (f1 (1 : Int32) (4 : Int32) z1_s0 p1 p2 p3 p4))) 2 (nar .byte (f1 (2 : Int32) (4 : Int32) z1_s0 p1 p2 p3 p4))) 3 (nar .byte (f1 (3 : Int32) (4 : Int32) z1_s0 p1 p2 p3 p4))) (4 - 1) (nar .byte ((if ((own_upd (own_upd (own_upd (own_upd (fun _ => 0) 0 (nar .byte (f1 (0 : Int32) (4 : Int32) z1_s0 p1 p2 p3 p4))) 1 (nar .byte (f1 (1 : Int32) (4 : Int32) z1_s0 p1 p2 p3 p4))) 2 (nar .byte (f1 (2 : Int32) (4 : Int32) z1_s0 p1 p2 p3 p4))) 3 (nar .byte (f1 (3 : Int32) (4 : Int32) z1_s0 p1 p2 p3 p4))) (4 - 1)) = (0 : Int32) then (255 : Int32) else (0 : Int32)).toInt8.toInt32))) 3) = (0 : Int32)) := own_last (by decide) (by decide) (own_f1b _ _ _ _ _ _ _) rfl
    refine Goes.go (fun _ k => XS.ifNo X80.here hx rfl (hb hby at_217) rfl ((if0 _ _).trans (feq hc217_81).1) k) ?_
    show Goes p e below s _ _ _ (T80.setTop (mkF m 220 #[.val (.int p0), .val (.int p1), .val (.int p2), .val (.int p3), .val (.int p4), .val (.int (4 : Int32)), .val (.int z1_s0), .val (.ref b59), .val (.ref c71_mw)] []))
    refine Goes.go (fun _ k => XS.iconst X80.here hx rfl (hb hby at_220) k) ?_
    show Goes p e below s _ _ _ (T80.setTop (mkF m 221 #[.val (.int p0), .val (.int p1), .val (.int p2), .val (.int p3), .val (.int p4), .val (.int (4 : Int32)), .val (.int z1_s0), .val (.ref b59), .val (.ref c71_mw)] [(.int (1 : Int32))]))
    refine Goes.go (fun _ k => XS.goto X80.here hx rfl (pc0 := 221) (pc' := 225) rfl (hb hby at_221) (by decide) (by decide) k) ?_
    show Goes p e below s _ _ _ (T80.setTop (mkF m 225 #[.val (.int p0), .val (.int p1), .val (.int p2), .val (.int p3), .val (.int p4), .val (.int (4 : Int32)), .val (.int z1_s0), .val (.ref b59), .val (.ref c71_mw)] [(.int (1 : Int32))]))
    refine Goes.retN .boolean X80 hx hlk Bd.returns (by simp) (hb hby at_225) ?_ (by decide) (by decide)
    exact ⟨rfl, N80⟩
set_option maxRecDepth 65536 in
set_option maxHeartbeats 40000000 in
theorem comes_1 {Post : Tables → Env → Array Value → State → Outcome → State → Prop} (hpost : ∀ tb e args s v u, (limb_1_1.after args s (.returned v) u = true ∧ limb_1_2.after args s (.returned v) u = true ∧ True) → FrameEnd s (.returned v) u (Jvm.fieldLocs frame_1_writes args s ++ Jvm.arrayLocs frame_1_arrays args s ++ Jvm.staticLocs frame_1_statics s) 16 128 → Post tb e args s (.returned v) u) :
    ArmFor flags0 classFile x code maxLocals ret World_1 tables_1 room_1 Calls_1 rest_1 Pre_1 Post := by
  intro l hfl _ _ p e ha hc hk s m args below hf hA hF happ hP
  obtain ⟨hcalls, hrest, hpre⟩ := hP
  obtain ⟨-, -, -, hnamed, -, -, -, hat⟩ := (Spec.applies_iff hf).mp happ
  obtain ⟨hg, hn⟩ := and_e (Cond.before_iff.mp (show (Jvm.Cond.and given_1 narrow_1).before args s = true from hpre))
  obtain ⟨gc, gr0⟩ := and_e hg
  obtain ⟨w0, w1, w2, w3, w4, rfl⟩ : ∃ w0 w1 w2 w3 w4 : Value, args = #[w0, w1, w2, w3, w4] := by
    have hs : args.size = 5 := by simpa [Cond.value, given_1] using gc
    obtain ⟨L⟩ := args
    match L, hs with
    | [w0, w1, w2, w3, w4], _ => exact ⟨w0, w1, w2, w3, w4, rfl⟩
  have hw := fun d (hd : d ∈ tables_1) => atoms_spec (ws := Jvm.Cond.code x code maxLocals ret :: tables_1) hat d (List.mem_cons_of_mem _ hd)
  have hfit : Fit s := fun {y c} hc i hi => by
    obtain ⟨ha, rfl⟩ := Array.getElem?_eq_some_iff.mp hc
    have q := List.all_eq_true.mp ((Array.all_eq_true_iff_forall_mem.mp hF) _ (Array.getElem_mem ha)) i (List.mem_range.mpr hi)
    simpa [Array.getElem?_eq_getElem hi] using q
  obtain ⟨ga0, gr1⟩ := and_e gr0
  obtain ⟨i0, ei0⟩ := is_v ga0
  obtain rfl : w0 = (.int i0) := Option.some.inj ei0
  obtain ⟨ga1, gr2⟩ := and_e gr1
  obtain ⟨i1, ei1⟩ := is_v ga1
  obtain rfl : w1 = (.int i1) := Option.some.inj ei1
  obtain ⟨ga2, gr3⟩ := and_e gr2
  obtain ⟨i2, ei2⟩ := is_v ga2
  obtain rfl : w2 = (.int i2) := Option.some.inj ei2
  obtain ⟨ga3, gr4⟩ := and_e gr3
  obtain ⟨i3, ei3⟩ := is_v ga3
  obtain rfl : w3 = (.int i3) := Option.some.inj ei3
  obtain ⟨i4, ei4⟩ := is_v gr4
  obtain rfl : w4 = (.int i4) := Option.some.inj ei4
  obtain ⟨n, o, h1, h2, h3, _, L, rfl, ⟨rfl, N⟩, hq⟩ := rm0 l s _ hw tables_1 i0 i1 i2 i3 i4 s.heap s.heap.size (Nat.le_refl _) p e ha hc hk s m _ below hf ((Spec.applies_iff_loose hf).mp happ).1 ⟨rfl, State.Warmed39.refl s, rfl⟩ trivial
  refine ⟨n, _, h1, h2, h3, hpost _ _ _ _ _ _ ⟨Cond.after_iff.mpr rfl, Cond.after_iff.mpr (eq_i res_at (Term.int_eval (1)) rfl), trivial⟩ ⟨hq.1, hq.2.1, (hq.2.2.sift fun y hy => Or.inr (N y hy)).mono (by decide) (by decide)⟩⟩
theorem main_1_1 : Claimed_1_1 := comes_1 fun _ _ _ _ _ _ h hF => ⟨h.1, hF⟩
theorem main_1_2 : Claimed_1_2 := comes_1 fun _ _ _ _ _ _ h hF => ⟨h.2.1, hF⟩
end Jvm.Pilot.@@N@@
namespace Jvm.Pilot.@@N@@
open Jvm Jvm.ClassFile Sem Op Lib Jvm.Free Jvm.Stand Jvm.Pilot.@@N@@.Jvm.D
/-! MADE BY PROGRAM (witnessworld.py) out of the Statement's table words and the real class files: 9 classes; the members and pool entries that the words name. The judged class is class 1, her method 4. -/
namespace start1
open Jvm.ClassFile
def u (s : String) : CpInfo := .utf8 (stringToUtf16 s)
/-- a pool by its gaps: so many unusable entries, then the entry; so many at the end -/
def gap : Nat → List CpInfo → List CpInfo
  | 0, r => r
  | n + 1, r => .unusable :: gap n r
def poolList (es : List (Nat × CpInfo)) (last : Nat) : List CpInfo := es.foldr (fun e r => gap e.1 (e.2 :: r)) (gap last [])
def pool (es : List (Nat × CpInfo)) (last : Nat) : Array CpInfo := ⟨poolList es last⟩
def fileOf (pool : Array CpInfo) (this : Nat) (attrs : Array Attribute := #[]) (ms : Array MethodInfo := #[]) (fl : Nat := 33) (sup : Nat := 0) (ifs : Array Nat := #[]) (fds : Array FieldInfo := #[]) : ClassFile where
  minorVersion := 0
  majorVersion := 65
  constantPool := pool
  accessFlags := fl
  thisClass := this
  superClass := sup
  interfaces := ifs
  fields := fds
  methods := ms
  attributes := attrs
def plain (name : String) (sup : Option ClassId) : Class where
  name := name
  kind := .ordinary
  loader := none
  accessFlags := 33
  super := sup
  interfaces := #[]
  cf := none
  fields := #[]
  methods := #[]
  instanceTypes := #[]
  staticTypes := #[]
  resolved := #[]
  callSites := []
  init := .initialized
  statics := none
  mirror := none

def pool0 : Array CpInfo := pool [(5, u "<init>"), (0, u "()V"), (1, .class_ 10), (1, u "java/lang/Object"), (85, u "clone"), (0, u "()Ljava/lang/Object;")] 26

def k0m0 : Method := { name := "<init>", desc := "()V", sig := { parameters := [], returnType := none }, accessFlags := 1, code := none }
def k0m1 : Method := { name := "clone", desc := "()Ljava/lang/Object;", sig := { parameters := [], returnType := some (.object "java/lang/Object") }, accessFlags := 260, code := none }
/-- java/lang/Object -/
def k0 : Class := { plain "java/lang/Object" none with
  accessFlags := 33
  interfaces := #[]
  cf := some (fileOf pool0 8 #[] #[{ accessFlags := 1, nameIndex := 5, descriptorIndex := 6, attributes := #[] }, { accessFlags := 260, nameIndex := 96, descriptorIndex := 97, attributes := #[] }] 33 0 #[] #[])
  fields := #[]
  methods := #[k0m0, k0m1]
  instanceTypes := #[]
  staticTypes := #[]
  resolved := Array.replicate 124 none
  statics := none }

def pool1 : Array CpInfo := pool [(2, .class_ 4), (1, u "java/lang/Object"), (0, u "<init>"), (0, u "()V"), (0, .methodref 8 9), (0, .class_ 10), (0, .nameAndType 11 12), (0, u "org/cardprobe/CheckCharacterWithWrongCheckPinLaw"), (0, u "pick"), (0, u "(IIIII)B"), (0, .methodref 8 14), (0, .nameAndType 15 16), (0, u "orig"), (0, u "(IIZIIII)B"), (0, .methodref 18 19), (0, .class_ 20), (0, .nameAndType 21 22), (0, u "org/cardprobe/CheckCharacter"), (0, u "withWrongCheck"), (0, u "([B)[B"), (0, .methodref 8 24), (0, .nameAndType 25 26), (0, u "slotOk"), (0, u "(IIZ[B[BIIII)Z"), (3, u "law"), (0, u "(IIIII)Z")] 4

def k1m0 : Method := { name := "<init>", desc := "()V", sig := { parameters := [], returnType := none }, accessFlags := 2, code := none }
def k1c1 : Code := { maxStack := 2, maxLocals := 5, code := method_2_code, exceptionTable := #[], attributes := #[] }
def k1m1 : Method := { name := "pick", desc := "(IIIII)B", sig := { parameters := [.int, .int, .int, .int, .int], returnType := some .byte }, accessFlags := 10, code := some k1c1 }
def k1c2 : Code := { maxStack := 5, maxLocals := 7, code := method_3_code, exceptionTable := #[], attributes := #[] }
def k1m2 : Method := { name := "orig", desc := "(IIZIIII)B", sig := { parameters := [.int, .int, .boolean, .int, .int, .int, .int], returnType := some .byte }, accessFlags := 10, code := some k1c2 }
def k1c3 : Code := { maxStack := 7, maxLocals := 11, code := method_4_code, exceptionTable := #[], attributes := #[] }
def k1m3 : Method := { name := "slotOk", desc := "(IIZ[B[BIIII)Z", sig := { parameters := [.int, .int, .boolean, (.array .byte), (.array .byte), .int, .int, .int, .int], returnType := some .boolean }, accessFlags := 10, code := some k1c3 }
def k1c4 : Code := { maxStack := 9, maxLocals := 9, code := code, exceptionTable := #[], attributes := #[] }
def k1m4 : Method := { name := "law", desc := "(IIIII)Z", sig := { parameters := [.int, .int, .int, .int, .int], returnType := some .boolean }, accessFlags := 9, code := some k1c4 }
/-- org/cardprobe/CheckCharacterWithWrongCheckPinLaw -/
def k1 : Class := { plain "org/cardprobe/CheckCharacterWithWrongCheckPinLaw" (some 0) with
  accessFlags := 49
  interfaces := #[]
  cf := some (fileOf pool1 8 #[] #[{ accessFlags := 2, nameIndex := 5, descriptorIndex := 6, attributes := #[] }, { accessFlags := 10, nameIndex := 11, descriptorIndex := 12, attributes := #[] }, { accessFlags := 10, nameIndex := 15, descriptorIndex := 16, attributes := #[] }, { accessFlags := 10, nameIndex := 25, descriptorIndex := 26, attributes := #[] }, { accessFlags := 9, nameIndex := 30, descriptorIndex := 31, attributes := #[] }] 49 2 #[] #[])
  fields := #[]
  methods := #[k1m0, k1m1, k1m2, k1m3, k1m4]
  instanceTypes := #[]
  staticTypes := #[]
  resolved := Array.replicate 36 none
  statics := none }

def pool2 : Array CpInfo := pool [(2, .class_ 4), (1, u "java/lang/Object"), (0, u "<init>"), (0, u "()V"), (0, .methodref 8 9), (0, .class_ 10), (0, .nameAndType 11 12), (0, u "[B"), (0, u "clone"), (0, u "()Ljava/lang/Object;"), (0, .class_ 14), (0, u "org/cardprobe/CheckCharacter"), (5, u "withWrongCheck"), (0, u "([B)[B")] 2

def k2m0 : Method := { name := "<init>", desc := "()V", sig := { parameters := [], returnType := none }, accessFlags := 2, code := none }
def k2c1 : Code := { maxStack := 4, maxLocals := 3, code := prog_37_method_3_code, exceptionTable := #[], attributes := #[] }
def k2m1 : Method := { name := "withWrongCheck", desc := "([B)[B", sig := { parameters := [(.array .byte)], returnType := some (.array .byte) }, accessFlags := 8, code := some k2c1 }
/-- org/cardprobe/CheckCharacter -/
def k2 : Class := { plain "org/cardprobe/CheckCharacter" (some 0) with
  accessFlags := 48
  interfaces := #[]
  cf := some (fileOf pool2 13 #[] #[{ accessFlags := 2, nameIndex := 5, descriptorIndex := 6, attributes := #[] }, { accessFlags := 8, nameIndex := 20, descriptorIndex := 21, attributes := #[] }] 48 2 #[] #[])
  fields := #[]
  methods := #[k2m0, k2m1]
  instanceTypes := #[]
  staticTypes := #[]
  resolved := Array.replicate 24 none
  statics := none }

def pool3 : Array CpInfo := pool [(1, .class_ 2), (0, u "java/lang/Cloneable"), (0, .class_ 4), (0, u "java/lang/Object")] 2

/-- java/lang/Cloneable -/
def k3 : Class := { plain "java/lang/Cloneable" (some 0) with
  accessFlags := 1537
  interfaces := #[]
  cf := some (fileOf pool3 1 #[] #[] 1537 3 #[] #[])
  fields := #[]
  methods := #[]
  instanceTypes := #[]
  staticTypes := #[]
  resolved := Array.replicate 7 none
  statics := none }

def pool4 : Array CpInfo := pool [(1, u "java/io/Serializable"), (0, .class_ 1), (0, u "java/lang/Object"), (0, .class_ 3)] 3

/-- java/io/Serializable -/
def k4 : Class := { plain "java/io/Serializable" (some 0) with
  accessFlags := 1537
  interfaces := #[]
  cf := some (fileOf pool4 2 #[] #[] 1537 4 #[] #[])
  fields := #[]
  methods := #[]
  instanceTypes := #[]
  staticTypes := #[]
  resolved := Array.replicate 8 none
  statics := none }

/-- the primitive byte -/
def k5 : Class := { plain "byte" none with kind := .primitive 'B', accessFlags := 0x411 }
/-- [B -/
def k6 : Class := { plain "[B" (some 0) with kind := .array 5 .byte, interfaces := #[3, 4], accessFlags := 1041 }

/-- the primitive int -/
def k7 : Class := { plain "int" none with kind := .primitive 'I', accessFlags := 0x411 }
/-- [I -/
def k8 : Class := { plain "[I" (some 0) with kind := .array 7 .int, interfaces := #[3, 4], accessFlags := 1041 }

def heap : Heap := #[]
def classes : Array Class := #[k0, k1, k2, k3, k4, k5, k6, k7, k8]
def interned : List (Array UInt16 × Addr) := []
def slotsUsed : Nat := 0
def theMethod : MethodId := ⟨1, 4⟩
def args0 : Array Value := #[.int 5, .int 5, .int 5, .int 5, .int 5]
def aboutOver (below : List Frame) : State where
  vm := { classes := classes, interned := interned.toArray }
  heap := heap
  slotsUsed := slotsUsed
  threads := #[{ frames := .invoking theMethod args0 :: below }]
def below0 : List Frame := [.native { method := ⟨0, 0⟩, args := #[] }]
def about1 : State := aboutOver below0
def p0 : Program := .bare "" "" ""
def e0 : Env := launch0.env 0 0 0
theorem w_frames : about1.frames = Frame.invoking theMethod args0 :: below0 := rfl
set_option maxRecDepth 65536 in
theorem w_args : argsFit about1.vm theMethod args0 = true := by decide +kernel
set_option maxRecDepth 65536 in
theorem w_heap : heapFits about1 = true := by decide +kernel
set_option maxRecDepth 65536 in
theorem w_runnable : about1.curStatus? = some .runnable := by decide +kernel
set_option maxRecDepth 65536 in
theorem w_alone : about1.alone = true := by decide +kernel
set_option maxRecDepth 65536 in
theorem w_named : about1.methodNamed? x = some theMethod := by decide +kernel
set_option maxRecDepth 65536 in
theorem w_hears : about1.hears theMethod below0 = true := by decide +kernel
set_option maxRecDepth 65536 in
theorem w_ripe : about1.ripe theMethod args0 below0 = true := by decide +kernel
theorem w_running : about1.status = .running := rfl
set_option maxRecDepth 65536 in
theorem w_room : about1.hasRoom e0.platform room_1 = true :=
  launch0.hasRoom_least _ room_1 (by decide +kernel) (by decide +kernel) (by decide +kernel) (by decide +kernel) (by decide +kernel) (by decide +kernel)
theorem allAtoms_all (ts : List Jvm.Cond) (a : Array Jvm.Value) (st : Jvm.State) : (allAtoms ts).before a st = ts.all (fun c => c.before a st) := by
  induction ts with
  | nil => rfl
  | cons c t ih =>
    show (Jvm.Cond.and c (allAtoms t)).before a st = _
    rw [Jvm.Cond.before_and, ih, List.all_cons]
def words1 : List Jvm.Cond := Jvm.Cond.code x code maxLocals ret :: tables_1
/-- a 'code' word, met by the world's own term for the bytes: nothing is compared byte by byte -/
theorem code_word {y : MethodName} {bytes : ByteArray} {mx : Nat} {rt : Option FieldType} {a : Array Value} {s : State} {m : MethodId} {meth : Method} {c : Code} (h1 : s.methodNamed? y = some m) (h2 : s.vm.method? m = some meth) (h3 : meth.code = some c) (h4 : c.code = bytes)
    (h5 : (c.maxLocals == mx && c.exceptionTable.isEmpty && decide (c.maxStack ≤ mostOperands) && decide (meth.sig.returnType = rt) && !meth.locks && decide (parseMethodDescriptor y.desc = some meth.sig)) = true) : (Jvm.Cond.code y bytes mx rt).before a s = true := by
  simp only [Bool.and_eq_true, beq_iff_eq, Bool.not_eq_true', decide_eq_true_eq] at h5
  obtain ⟨⟨⟨⟨⟨g1, g2⟩, g3⟩, g4⟩, g5⟩, g6⟩ := h5
  simp [Cond.before, Cond.holds, Cond.value, h1, h2, h3, h4, g1, g2, g3, g4, g5, g6]
def isCode : Jvm.Cond → Bool
  | .code _ _ _ _ => true
  | _ => false
theorem all_split {L : List Jvm.Cond} {P : Jvm.Cond → Bool} (h1 : L.all (fun c => isCode c || P c) = true) (h2 : ∀ c ∈ L.filter isCode, P c = true) : L.all P = true := by
  refine List.all_eq_true.mpr fun c hc => ?_
  have h := List.all_eq_true.mp h1 c hc
  rcases Bool.eq_false_or_eq_true (isCode c) with hi | hi
  · exact h2 c (List.mem_filter.mpr ⟨hc, hi⟩)
  · simpa [hi] using h
set_option maxRecDepth 65536 in
theorem w_c0 : (Jvm.Cond.code x code maxLocals ret).before args0 about1 = true := code_word (m := ⟨1, 4⟩) (meth := k1m4) (c := k1c4) (by decide +kernel) rfl rfl rfl (by decide +kernel)
set_option maxRecDepth 65536 in
theorem w_c1 : (Jvm.Cond.code ({ cls := "org/cardprobe/CheckCharacterWithWrongCheckPinLaw", name := "orig", desc := "(IIZIIII)B" } : Jvm.MethodName) method_3_code (7 : Nat) (Option.some Jvm.ClassFile.FieldType.byte)).before args0 about1 = true := code_word (m := ⟨1, 2⟩) (meth := k1m2) (c := k1c2) (by decide +kernel) rfl rfl rfl (by decide +kernel)
set_option maxRecDepth 65536 in
theorem w_c2 : (Jvm.Cond.code ({ cls := "org/cardprobe/CheckCharacterWithWrongCheckPinLaw", name := "pick", desc := "(IIIII)B" } : Jvm.MethodName) method_2_code (5 : Nat) (Option.some Jvm.ClassFile.FieldType.byte)).before args0 about1 = true := code_word (m := ⟨1, 1⟩) (meth := k1m1) (c := k1c1) (by decide +kernel) rfl rfl rfl (by decide +kernel)
set_option maxRecDepth 65536 in
theorem w_c3 : (Jvm.Cond.code ({ cls := "org/cardprobe/CheckCharacter", name := "withWrongCheck", desc := "([B)[B" } : Jvm.MethodName) prog_37_method_3_code (3 : Nat) (Option.some (Jvm.ClassFile.FieldType.array Jvm.ClassFile.FieldType.byte))).before args0 about1 = true := code_word (m := ⟨2, 1⟩) (meth := k2m1) (c := k2c1) (by decide +kernel) rfl rfl rfl (by decide +kernel)
set_option maxRecDepth 65536 in
theorem w_c4 : (Jvm.Cond.code ({ cls := "org/cardprobe/CheckCharacterWithWrongCheckPinLaw", name := "slotOk", desc := "(IIZ[B[BIIII)Z" } : Jvm.MethodName) method_4_code (11 : Nat) (Option.some Jvm.ClassFile.FieldType.boolean)).before args0 about1 = true := code_word (m := ⟨1, 3⟩) (meth := k1m3) (c := k1c3) (by decide +kernel) rfl rfl rfl (by decide +kernel)
def codes1 : List Jvm.Cond := [Jvm.Cond.code x code maxLocals ret, Jvm.Cond.code ({ cls := "org/cardprobe/CheckCharacterWithWrongCheckPinLaw", name := "orig", desc := "(IIZIIII)B" } : Jvm.MethodName) method_3_code (7 : Nat) (Option.some Jvm.ClassFile.FieldType.byte), Jvm.Cond.code ({ cls := "org/cardprobe/CheckCharacterWithWrongCheckPinLaw", name := "pick", desc := "(IIIII)B" } : Jvm.MethodName) method_2_code (5 : Nat) (Option.some Jvm.ClassFile.FieldType.byte), Jvm.Cond.code ({ cls := "org/cardprobe/CheckCharacter", name := "withWrongCheck", desc := "([B)[B" } : Jvm.MethodName) prog_37_method_3_code (3 : Nat) (Option.some (Jvm.ClassFile.FieldType.array Jvm.ClassFile.FieldType.byte)), Jvm.Cond.code ({ cls := "org/cardprobe/CheckCharacterWithWrongCheckPinLaw", name := "slotOk", desc := "(IIZ[B[BIIII)Z" } : Jvm.MethodName) method_4_code (11 : Nat) (Option.some Jvm.ClassFile.FieldType.boolean)]
set_option maxRecDepth 65536 in
theorem codes_eq : words1.filter isCode = codes1 := rfl
theorem w_codes : ∀ c ∈ words1.filter isCode, c.before args0 about1 = true := by
  rw [codes_eq]
  intro c hc
  simp only [codes1, List.mem_cons, List.not_mem_nil, or_false] at hc
  rcases hc with rfl | rfl | rfl | rfl | rfl
  · exact w_c0
  · exact w_c1
  · exact w_c2
  · exact w_c3
  · exact w_c4
set_option maxRecDepth 65536 in
theorem w_t1 : (words1.take 24).all (fun c => isCode c || c.before args0 about1) = true := by decide +kernel
set_option maxRecDepth 65536 in
theorem w_t2 : (words1.drop 24).all (fun c => isCode c || c.before args0 about1) = true := by decide +kernel
theorem w_tables : (allAtoms (Jvm.Cond.code x code maxLocals ret :: tables_1)).before args0 about1 = true := by
  rw [allAtoms_all]
  show words1.all (fun c => c.before args0 about1) = true
  refine all_split ?_ w_codes
  rw [← List.take_append_drop 24 words1, List.all_append, w_t1, w_t2]
  rfl
set_option maxRecDepth 65536 in
theorem w_case : (Jvm.Cond.and given_1 narrow_1).before args0 about1 = true := by decide +kernel
theorem w_applies : (headSpec (Jvm.Cond.code x code maxLocals ret :: tables_1) room_1).applies x e0.platform about1 = true :=
  (Spec.applies_iff w_frames).mpr ⟨w_running, w_runnable, w_alone, w_named, w_hears, w_ripe, w_room, w_tables⟩
theorem atStart : AtStart classFile x code maxLocals ret World_1 tables_1 room_1 Calls_1 rest_1 Pre_1 launch0 p0 e0 about1 theMethod args0 below0 :=
  ⟨lists_1, trivial, launch0.admits_env _ _ _, launch0.least_env, fairChoices_fair.cas, fairChoices_fair.clock, w_frames, w_args, w_heap, w_applies, trivial, trivial, w_case⟩
end start1
theorem witness_1 : WitnessClaimed_1 := ⟨start1.p0, start1.e0, start1.about1, start1.theMethod, start1.args0, start1.below0, start1.atStart⟩
end Jvm.Pilot.@@N@@
