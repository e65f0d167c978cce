import JvmDerived
import JvmDerived.Pilot.@@N@@Statement
import JvmDerived.Pilot.@@N@@Code
set_option linter.unusedVariables false
set_option linter.unusedSimpArgs false
@@BLOCK:NumsL.lean.txt@@
namespace Jvm.RoadKit
open Sem ClassFile Op Lib Jvm.Stand Jvm.Free Jvm.LawKit
section Goes
variable {p : Program} {l : Launch} {e : Env} {R : Room} {s : State} {m : MethodId} {args : Array Value} {below : List Frame} {meth : Method} {c : Code} {T : State} {locs : List Loc} {cells slots : Nat}
/-- from here the run comes to its return, and Q holds there -/
def Goes (p : Program) (e : Env) (below : List Frame) (s : State) (Q : Option Value → Heap → List Loc → Prop) (kc ks : Nat) (S : State) : Prop :=
  ∃ s₂ o, Steps p.tables e below S s₂ ∧ s₂.status = .running ∧ Ended s₂ below o ∧ ∃ v L, o = .returned v ∧ Q v s₂.heap L ∧ FrameEnd s o s₂ L kc ks
variable {Q Q' : Option Value → Heap → List Loc → Prop} {kc ks : Nat} {A B : State}
theorem Goes.go (h : ∀ t, Steps p.tables e below A t → Steps p.tables e below B t) (g : Goes p e below s Q kc ks A) : Goes p e below s Q kc ks B := by
  obtain ⟨s2, o, h1, h2⟩ := g
  exact ⟨s2, o, h _ h1, h2⟩
theorem Goes.tr (h : Steps p.tables e below B A) (g : Goes p e below s Q kc ks A) : Goes p e below s Q kc ks B := g.go fun _ k => h.trans k
theorem Goes.weaken (h : ∀ v hp L, Q' v hp L → Q v hp L) (g : Goes p e below s Q' kc ks A) : Goes p e below s Q kc ks A := by
  obtain ⟨s2, o, h1, h2, h3, v, L, h4, h5, h6⟩ := g
  exact ⟨s2, o, h1, h2, h3, v, L, h4, h _ _ _ h5, h6⟩
theorem Goes.castQ (h : Q = Q') (g : Goes p e below s Q' kc ks A) : Goes p e below s Q kc ks A := h ▸ g
theorem Goes.out (X : Stand p l e R s m args below meth c T locs cells slots) (hlk : meth.locks = false) {v : Option Value} (hv : meth.sig.returnType = none → v = none) {F : State}
    (hstep : ∀ fs, (∀ (f : JFrame) (acts : List Action), f.method = m → f.locked = none → f.entered = [] → (doReturn e (T.setTop f) acts v).1 = T.setFrames fs) → Steps p.tables e below F (T.setFrames fs))
    (hq : Q v T.heap locs) (hc : cells ≤ kc) (hs : slots ≤ ks) : Goes p e below s Q kc ks F := by
  obtain ⟨fs, hr, hrun, hended, hW, hsame⟩ := X.leave (v := v) hv hlk
  exact ⟨_, _, hstep fs hr, hrun, hended, _, _, rfl, hq, ⟨_, rfl⟩, hW, hsame.mono hc hs⟩
theorem retI (X : Stand p l e R s m args below meth c T locs cells slots) (hx : p.tables.exec = Jvm.exec) {pc : Nat} {Ls : Array Slot} {z : Int32} {rest : List Value} (hret : meth.sig.returnType = some .int) (hd : decode c.code pc = .ok (.ireturn, 1)) {fs : List Frame}
    (hl : ∀ (f : JFrame) (acts : List Action), f.method = m → f.locked = none → f.entered = [] → (doReturn e (T.setTop f) acts (some (.int z))).1 = T.setFrames fs) : Steps p.tables e below (T.setTop (mkF m pc Ls (.int z :: rest))) (T.setFrames fs) := by
  have hm' : T.vm.method? m = some meth := X.method'
  have hn : narrow .int (.int z) = .int z := rfl
  show Steps p.tables e below (T.setTop { method := m, pc := pc, locals := Ls, stack := _ :: rest, locked := none }) _
  jvm_step X.here [X.here.top, hx, hd, hm', hret, hn]
  first | (intro acts; rw [hl _ acts rfl rfl rfl]) | rw [hl _ _ rfl rfl rfl]
  exact Steps.refl _
theorem Goes.retI (X : Stand p l e R s m args below meth c T locs cells slots) (hx : p.tables.exec = Jvm.exec) (hlk : meth.locks = false) (hret : meth.sig.returnType = some .int) {pc : Nat} {Ls : Array Slot} {z : Int32} {rest : List Value} (hd : decode c.code pc = .ok (.ireturn, 1))
    (hq : Q (some (.int z)) T.heap locs) (hc : cells ≤ kc) (hs : slots ≤ ks) : Goes p e below s Q kc ks (T.setTop (mkF m pc Ls (.int z :: rest))) :=
  Goes.out X hlk (fun h => by rw [hret] at h; cases h) (fun fs hr => Jvm.RoadKit.retI X hx hret hd hr) hq hc hs
theorem Goes.retN (t : FieldType) (X : Stand p l e R s m args below meth c T locs cells slots) (hx : p.tables.exec = Jvm.exec) (hlk : meth.locks = false) (hret : meth.sig.returnType = some t) (ht : t = .boolean ∨ t = .byte ∨ t = .char ∨ t = .short) {pc : Nat} {Ls : Array Slot} {z : Int32} {rest : List Value} (hd : decode c.code pc = .ok (.ireturn, 1))
    (hq : Q (some (.int (nar t z))) T.heap locs) (hc : cells ≤ kc) (hs : slots ≤ ks) : Goes p e below s Q kc ks (T.setTop (mkF m pc Ls (.int z :: rest))) :=
  Goes.out X hlk (fun h => by rw [hret] at h; cases h) (fun fs hr => Jvm.RoadKit.retN X hx hret ht hd hr) hq hc hs
theorem Goes.ret0 (X : Stand p l e R s m args below meth c T locs cells slots) (hx : p.tables.exec = Jvm.exec) (hlk : meth.locks = false) (hret : meth.sig.returnType = none) {pc : Nat} {Ls : Array Slot} (hd : decode c.code pc = .ok (.return_, 1))
    (hq : Q none T.heap locs) (hc : cells ≤ kc) (hs : slots ≤ ks) : Goes p e below s Q kc ks (T.setTop (mkF m pc Ls [])) :=
  Goes.out X hlk (fun _ => rfl) (fun fs hr => X.returnOut hx hret hd hr) hq hc hs
theorem Goes.retJ (X : Stand p l e R s m args below meth c T locs cells slots) (hx : p.tables.exec = Jvm.exec) (hlk : meth.locks = false) (hret : meth.sig.returnType = some .long) {pc : Nat} {Ls : Array Slot} {z : Int64} (hd : decode c.code pc = .ok (.lreturn, 1))
    (hq : Q (some (.long z)) T.heap locs) (hc : cells ≤ kc) (hs : slots ≤ ks) : Goes p e below s Q kc ks (T.setTop (mkF m pc Ls [.long z])) :=
  Goes.out X hlk (fun h => by rw [hret] at h; cases h) (fun fs hr => X.lreturnOut hx hret hd hr) hq hc hs
theorem Goes.retA (X : Stand p l e R s m args below meth c T locs cells slots) (hx : p.tables.exec = Jvm.exec) (hlk : meth.locks = false) {w : Value} (hw : w.isRef = true) {t : FieldType} (hret : meth.sig.returnType = some t) (ht : t.isReference = true) {pc : Nat} {Ls : Array Slot} (hd : decode c.code pc = .ok (.areturn, 1))
    (hq : Q (some w) T.heap locs) (hc : cells ≤ kc) (hs : slots ≤ ks) : Goes p e below s Q kc ks (T.setTop (mkF m pc Ls [w])) :=
  Goes.out X hlk (fun h => by rw [hret] at h; cases h) (fun fs hr => X.areturnOut hx hw hret ht hd hr) hq hc hs
/-- the answer of a method that writes nothing -/
def Qp (z : Value) (h0 : Heap) (n0 : Nat) (v : Option Value) (h : Heap) (L : List Loc) : Prop := v = some z ∧ Fr n0 L ∧ h = h0
/-- the answer of a method that writes nothing and returns nothing -/
def Qn (h0 : Heap) (n0 : Nat) (v : Option Value) (h : Heap) (L : List Loc) : Prop := v = none ∧ Fr n0 L ∧ h = h0
theorem Goes.qi {z z' : Int32} {h0 : Heap} {n0 : Nat} (h : z = z') (g : Goes p e below s (Qp (.int z') h0 n0) kc ks A) : Goes p e below s (Qp (.int z) h0 n0) kc ks A := h ▸ g
theorem Goes.qj {z z' : Int64} {h0 : Heap} {n0 : Nat} (h : z = z') (g : Goes p e below s (Qp (.long z') h0 n0) kc ks A) : Goes p e below s (Qp (.long z) h0 n0) kc ks A := h ▸ g
end Goes
end Jvm.RoadKit
namespace Jvm.RoadKit
open Sem ClassFile Op Lib Jvm.Stand Jvm.Free Jvm.LawKit
/-- an array of ints (bytes, chars, booleans): its length and what each place holds -/
def IA (Z : State) (h : Heap) (a : Addr) (ty : FieldType) (n : Nat) (f : Nat → Int32) : Prop :=
  ∃ c : Cell, Arr Z h a c ty ∧ c.slots.size = n ∧ n < 2 ^ 31 ∧ ∀ i, i < n → c.slots[i]? = some (.int (f i)) ∧ fits ty (.int (f i)) = true
def own_upd (f : Nat → Int32) (i : Nat) (v : Int32) : Nat → Int32 := fun k => if k = i then v else f k
section IAs
variable {p : Program} {l : Launch} {e : Env} {R : Room} {s : State} {m : MethodId} {args : Array Value} {below : List Frame} {meth : Method} {c : Code} {T : State} {locs : List Loc} {cells slots : Nat} {Z : State} {a0 : Array Value} {h h' : Heap} {a b : Addr} {ty : FieldType} {n : Nat} {f f' : Nat → Int32} {sl : Nat} {v : Value} {ws : List Addr}
theorem IA.lt (F : IA Z h a ty n f) : a < h.size := by obtain ⟨c, A, -⟩ := F; exact A.lt
theorem IA.ext (F : IA Z h a ty n f) (E : Ext h h') : IA Z h' a ty n f := by obtain ⟨c, A, r⟩ := F; exact ⟨c, A.ext E, r⟩
theorem IA.other (F : IA Z h b ty n f) (W : Wr h h' a sl v) (q : b ≠ a) : IA Z h' b ty n f := by obtain ⟨c, A, r⟩ := F; exact ⟨c, A.other W q, r⟩
theorem IA.keep (F : IA Z h a ty n f) (K : Keep h h' ws) (q : a ∉ ws) : IA Z h' a ty n f := by obtain ⟨c, A, r⟩ := F; exact ⟨c, ⟨K.2.1 a c A.1 q, A.2⟩, r⟩
theorem IA.as (F : IA Z h a ty n f) (q : ∀ i, i < n → f i = f' i) : IA Z h a ty n f' := by
  obtain ⟨c, A, S, M, H⟩ := F
  exact ⟨c, A, S, M, fun i hi => by rw [← q i hi]; exact H i hi⟩
theorem IA.bound (F : IA Z h a ty n f) : n < 2 ^ 31 := by obtain ⟨c, A, S, M, H⟩ := F; exact M
theorem own_nat {i : Nat} (hi : i < 2 ^ 31) : (Int32.ofNat i).toInt = i := Int32.toInt_ofNat_of_lt (by omega)
theorem own_cl {i : Nat} (hi : i < 2 ^ 31) : (Int32.ofNat i).toNatClampNeg = i := by
  have := own_nat hi
  show (Int32.ofNat i).toInt.toNat = i
  omega
theorem own_in {i : Nat} (hi : i < n) (hn : n < 2 ^ 31) : ¬ (Int32.ofNat i < 0 ∨ n ≤ (Int32.ofNat i).toNatClampNeg) := by
  rw [own_cl (by omega)]
  rintro (q | q)
  · have := Int32.lt_iff_toInt_lt.mp q
    rw [own_nat (by omega)] at this
    have z : (0 : Int32).toInt = 0 := rfl
    omega
  · omega
theorem IA.set {c : Cell} (A : Arr Z h a c ty) (S : c.slots.size = n) (M : n < 2 ^ 31) (H : ∀ i, i < n → c.slots[i]? = some (.int (f i)) ∧ fits ty (.int (f i)) = true) {i : Nat} (hi : i < n) {x : Int32} (hx : fits ty (.int x) = true) (W : Wr h h' a i (.int x)) : IA Z h' a ty n (own_upd f i x) := by
  refine ⟨c.setSlot i (.int x), A.same W, by rw [sz_set]; exact S, M, fun k hk => ?_⟩
  by_cases q : k = i
  · subst q
    simp only [own_upd, if_pos]
    exact ⟨by simp [Cell.setSlot, S, hk], hx⟩
  · simp only [own_upd, if_neg q]
    refine ⟨?_, (H k hk).2⟩
    rw [← (H k hk).1]
    simp only [Cell.setSlot]
    exact Array.getElem?_setIfInBounds_ne (Ne.symm q)
theorem own_newA (X : Stand p l e R s m args below meth c T locs cells slots) (hx : p.tables.exec = Jvm.exec) (hZ : Z.Warmed39 s.vm) {aty : ArrayType} (w : (Cond.arrayClass (newarray.typeOf aty)).before a0 Z = true) (eT : T.heap = h) {g : JFrame} (hg : g.method = m) (hd : decode c.code g.pc = .ok (.newarray aty, 2)) {z : Int32} {rest : List Value} (hs : g.stack = .int z :: rest)
    {n : Nat} (hz : z = Int32.ofNat n) {cap : Nat} (hcap : n ≤ cap) (hb : cap * 8 ≤ 536870912) (hc : cells + 1 ≤ R.cells) (hl : slots + cap ≤ R.slots) (hdv : defaultValue (newarray.typeOf aty) = .int 0) (hft : fits (newarray.typeOf aty) (.int 0) = true) {ad : String} (had : "[" ++ (newarray.typeOf aty).toString = ad) :
    ∃ T' h', Stand p l e R s m args below meth c T' locs (cells + 1) (slots + cap) ∧ T'.heap = h' ∧ Ext h h' ∧ IA Z h' h.size (newarray.typeOf aty) n (fun _ => 0) ∧ Exa Z h' h.size ad ∧
      ∀ target, Steps p.tables e below (T'.setTop { g with pc := g.pc + 2, stack := .ref h.size :: rest }) target → Steps p.tables e below (T.setTop g) target := by
  have hn31 : n < 2 ^ 31 := by omega
  have hcl : z.toNatClampNeg = n := by rw [hz]; exact own_cl hn31
  have hneg : ¬ z < 0 := by
    rw [hz]; intro q
    have := Int32.lt_iff_toInt_lt.mp q
    rw [own_nat hn31] at this
    have z : (0 : Int32).toInt = 0 := rfl
    omega
  obtain ⟨T', h', cA, X', e', E, A, EX, st⟩ := newPE X hx hZ w eT hg hd hs hneg (cap := cap) (by rw [hcl]; exact hcap) hb hc hl had
  refine ⟨T', h', X', e', E, ⟨_, A, by rw [sz_new]; exact hcl, hn31, fun i hi => ⟨?_, hft⟩⟩, EX, st⟩
  have := get_new (cA := cA) (ty := newarray.typeOf aty) (n := z) (k := Int32.ofNat i) (by rw [hcl]; exact own_in hi hn31)
  rw [own_cl (by omega), hdv] at this
  exact this
theorem own_stI (X : Stand p l e R s m args below meth c T locs cells slots) (hx : p.tables.exec = Jvm.exec) (hZ : Z.Warmed39 s.vm) (eT : T.heap = h) (A : IA Z h a .int n f) {j x : Int32} {i : Nat} (hj : j = Int32.ofNat i) (hi : i < n) {g : JFrame} (hg : g.method = m) {rest : List Value} (hs : g.stack = .int x :: .int j :: .ref a :: rest) (hd : decode c.code g.pc = .ok (.iastore, 1)) :
    ∃ T' h', Stand p l e R s m args below meth c T' (locs ++ [⟨a, i⟩]) cells slots ∧ T'.heap = h' ∧ Wr h h' a i (.int x) ∧ IA Z h' a .int n (own_upd f i x) ∧ ∀ target, Steps p.tables e below (T'.setTop { g with pc := g.pc + 1, stack := rest }) target → Steps p.tables e below (T.setTop g) target := by
  obtain ⟨cl, A, S, M, H⟩ := A
  subst hj
  obtain ⟨T', h', X', e', W, st⟩ := stI X hx hZ eT A (j := Int32.ofNat i) (by rw [S]; exact own_in hi M) hg hs hd
  rw [own_cl (by omega)] at X' W
  exact ⟨T', h', X', e', W, IA.set A S M H hi rfl W, st⟩
theorem own_stB (X : Stand p l e R s m args below meth c T locs cells slots) (hx : p.tables.exec = Jvm.exec) (hZ : Z.Warmed39 s.vm) (eT : T.heap = h) (A : IA Z h a .byte n f) {j x : Int32} {i : Nat} (hj : j = Int32.ofNat i) (hi : i < n) {g : JFrame} (hg : g.method = m) {rest : List Value} (hs : g.stack = .int x :: .int j :: .ref a :: rest) (hd : decode c.code g.pc = .ok (.bastore, 1)) :
    ∃ T' h', Stand p l e R s m args below meth c T' (locs ++ [⟨a, i⟩]) cells slots ∧ T'.heap = h' ∧ Wr h h' a i (.int (nar .byte x)) ∧ IA Z h' a .byte n (own_upd f i (nar .byte x)) ∧ ∀ target, Steps p.tables e below (T'.setTop { g with pc := g.pc + 1, stack := rest }) target → Steps p.tables e below (T.setTop g) target := by
  obtain ⟨cl, A, S, M, H⟩ := A
  subst hj
  obtain ⟨T', h', X', e', W, st⟩ := stB X hx hZ eT A (j := Int32.ofNat i) (by rw [S]; exact own_in hi M) hg hs hd
  rw [own_cl (by omega)] at X' W
  exact ⟨T', h', X', e', W, IA.set A S M H hi (fits_nar_byte _) W, st⟩
theorem own_stC (X : Stand p l e R s m args below meth c T locs cells slots) (hx : p.tables.exec = Jvm.exec) (hZ : Z.Warmed39 s.vm) (eT : T.heap = h) (A : IA Z h a .char n f) {j x : Int32} {i : Nat} (hj : j = Int32.ofNat i) (hi : i < n) {g : JFrame} (hg : g.method = m) {rest : List Value} (hs : g.stack = .int x :: .int j :: .ref a :: rest) (hd : decode c.code g.pc = .ok (.castore, 1)) :
    ∃ T' h', Stand p l e R s m args below meth c T' (locs ++ [⟨a, i⟩]) cells slots ∧ T'.heap = h' ∧ Wr h h' a i (.int (nar .char x)) ∧ IA Z h' a .char n (own_upd f i (nar .char x)) ∧ ∀ target, Steps p.tables e below (T'.setTop { g with pc := g.pc + 1, stack := rest }) target → Steps p.tables e below (T.setTop g) target := by
  obtain ⟨cl, A, S, M, H⟩ := A
  subst hj
  obtain ⟨T', h', X', e', W, st⟩ := stC X hx hZ eT A (j := Int32.ofNat i) (by rw [S]; exact own_in hi M) hg hs hd
  rw [own_cl (by omega)] at X' W
  exact ⟨T', h', X', e', W, IA.set A S M H hi (fits_nar_char _) W, st⟩
theorem own_stZ (X : Stand p l e R s m args below meth c T locs cells slots) (hx : p.tables.exec = Jvm.exec) (hZ : Z.Warmed39 s.vm) (eT : T.heap = h) (A : IA Z h a .boolean n f) {j x : Int32} {i : Nat} (hj : j = Int32.ofNat i) (hi : i < n) {g : JFrame} (hg : g.method = m) {rest : List Value} (hs : g.stack = .int x :: .int j :: .ref a :: rest) (hd : decode c.code g.pc = .ok (.bastore, 1)) :
    ∃ T' h', Stand p l e R s m args below meth c T' (locs ++ [⟨a, i⟩]) cells slots ∧ T'.heap = h' ∧ Wr h h' a i (.int (nar .boolean x)) ∧ IA Z h' a .boolean n (own_upd f i (nar .boolean x)) ∧ ∀ target, Steps p.tables e below (T'.setTop { g with pc := g.pc + 1, stack := rest }) target → Steps p.tables e below (T.setTop g) target := by
  obtain ⟨cl, A, S, M, H⟩ := A
  subst hj
  obtain ⟨T', h', X', e', W, st⟩ := stZ X hx hZ eT A (j := Int32.ofNat i) (by rw [S]; exact own_in hi M) hg hs hd
  rw [own_cl (by omega)] at X' W
  exact ⟨T', h', X', e', W, IA.set A S M H hi (fits_nar_bool _) W, st⟩
theorem own_ldI (X : Stand p l e R s m args below meth c T locs cells slots) (hx : p.tables.exec = Jvm.exec) (hZ : Z.Warmed39 s.vm) (eT : T.heap = h) (A : IA Z h a .int n f) {j : Int32} {i : Nat} (hj : j = Int32.ofNat i) (hi : i < n) {g : JFrame} (hg : g.method = m) {rest : List Value} (hs : g.stack = .int j :: .ref a :: rest) (hd : decode c.code g.pc = .ok (.iaload, 1)) :
    ∀ target, Steps p.tables e below (T.setTop { g with pc := g.pc + 1, stack := .int (f i) :: rest }) target → Steps p.tables e below (T.setTop g) target := by
  obtain ⟨cl, A, S, M, H⟩ := A
  subst hj
  exact X.iaload hx (j := Int32.ofNat i) (v := .int (f i)) (by rw [eT]; exact A.1) (State.isArrayOf_alike hZ.alike A.2.1) A.2.2 (by rw [S]; exact own_in hi M) (by rw [own_cl (by omega)]; exact (H i hi).1) hg hs hd
theorem own_ldB (X : Stand p l e R s m args below meth c T locs cells slots) (hx : p.tables.exec = Jvm.exec) (hZ : Z.Warmed39 s.vm) (eT : T.heap = h) (A : IA Z h a .byte n f) {j : Int32} {i : Nat} (hj : j = Int32.ofNat i) (hi : i < n) {g : JFrame} (hg : g.method = m) {rest : List Value} (hs : g.stack = .int j :: .ref a :: rest) (hd : decode c.code g.pc = .ok (.baload, 1)) :
    ∀ target, Steps p.tables e below (T.setTop { g with pc := g.pc + 1, stack := .int (f i) :: rest }) target → Steps p.tables e below (T.setTop g) target := by
  obtain ⟨cl, A, S, M, H⟩ := A
  subst hj
  exact X.baloadBytes hx (j := Int32.ofNat i) (v := .int (f i)) (by rw [eT]; exact A.1) (State.isArrayOf_alike hZ.alike A.2.1) A.2.2 (by rw [S]; exact own_in hi M) (by rw [own_cl (by omega)]; exact (H i hi).1) hg hs hd
theorem own_ldZ (X : Stand p l e R s m args below meth c T locs cells slots) (hx : p.tables.exec = Jvm.exec) (hZ : Z.Warmed39 s.vm) (eT : T.heap = h) (A : IA Z h a .boolean n f) {j : Int32} {i : Nat} (hj : j = Int32.ofNat i) (hi : i < n) {g : JFrame} (hg : g.method = m) {rest : List Value} (hs : g.stack = .int j :: .ref a :: rest) (hd : decode c.code g.pc = .ok (.baload, 1)) :
    ∀ target, Steps p.tables e below (T.setTop { g with pc := g.pc + 1, stack := .int (f i) :: rest }) target → Steps p.tables e below (T.setTop g) target := by
  obtain ⟨cl, A, S, M, H⟩ := A
  subst hj
  exact X.baloadBooleans hx (j := Int32.ofNat i) (v := .int (f i)) (by rw [eT]; exact A.1) (State.isArrayOf_alike hZ.alike A.2.1) A.2.2 (by rw [S]; exact own_in hi M) (by rw [own_cl (by omega)]; exact (H i hi).1) hg hs hd
theorem own_ldC (X : Stand p l e R s m args below meth c T locs cells slots) (hx : p.tables.exec = Jvm.exec) (hZ : Z.Warmed39 s.vm) (eT : T.heap = h) (A : IA Z h a .char n f) {j : Int32} {i : Nat} (hj : j = Int32.ofNat i) (hi : i < n) {g : JFrame} (hg : g.method = m) {rest : List Value} (hs : g.stack = .int j :: .ref a :: rest) (hd : decode c.code g.pc = .ok (.caload, 1)) :
    ∀ target, Steps p.tables e below (T.setTop { g with pc := g.pc + 1, stack := .int (f i) :: rest }) target → Steps p.tables e below (T.setTop g) target := by
  obtain ⟨cl, A, S, M, H⟩ := A
  subst hj
  exact X.caload hx (j := Int32.ofNat i) (v := .int (f i)) (by rw [eT]; exact A.1) (State.isArrayOf_alike hZ.alike A.2.1) A.2.2 (by rw [S]; exact own_in hi M) (by rw [own_cl (by omega)]; exact (H i hi).1) hg hs hd
theorem own_len (X : Stand p l e R s m args below meth c T locs cells slots) (hx : p.tables.exec = Jvm.exec) (hZ : Z.Warmed39 s.vm) (eT : T.heap = h) (A : IA Z h a ty n f) {g : JFrame} (hg : g.method = m) {rest : List Value} (hs : g.stack = .ref a :: rest) (hd : decode c.code g.pc = .ok (.arraylength, 1)) :
    ∀ target, Steps p.tables e below (T.setTop { g with pc := g.pc + 1, stack := .int (Int32.ofNat n) :: rest }) target → Steps p.tables e below (T.setTop g) target := by
  obtain ⟨cl, A, S, M, H⟩ := A
  subst S
  exact X.arraylength hx (by rw [eT]; exact A.1) (State.isArrayOf_alike hZ.alike A.2.1) hg hs hd
end IAs
end Jvm.RoadKit
namespace Jvm.RoadKit
open Sem ClassFile Op Lib Jvm.Stand Jvm.Free Jvm.LawKit
theorem own_eqNat {x : Int32} {n : Nat} (h : x.toInt = n) : x = Int32.ofNat n := Int32.toInt_inj.mp (by rw [h, own_nat (by have := x.toInt_lt; omega)])
theorem own_andN (x m : Int32) (k : Nat) (hk : k < 32) (hm : m.toBitVec.toNat = 2 ^ k - 1) : ∃ n : Nat, n < 2 ^ k ∧ x &&& m = Int32.ofNat n := by
  have h := Jvm.Kit.i32_mask x m hk hm
  have hpos : (0 : Int) < 2 ^ k := Int.pow_pos (by decide)
  have h1 := Int.emod_nonneg x.toInt (Int.ne_of_gt hpos)
  have h2 := Int.emod_lt_of_pos x.toInt hpos
  refine ⟨(x.toInt % 2 ^ k).toNat, ?_, own_eqNat ?_⟩
  · have e : ((2 ^ k : Nat) : Int) = (2 : Int) ^ k := by rw [Int.natCast_pow]; rfl
    omega
  · rw [h]; omega
theorem own_modN (x : Int32) (d : Nat) (h0 : 0 < d) (hd : d < 2 ^ 31) : ∃ n : Nat, n < d ∧ (x &&& 2147483647) % Int32.ofNat d = Int32.ofNat n := by
  have h := Jvm.Kit.i32_mask x 2147483647 (k := 31) (by decide) (by decide)
  have h1 := Int.emod_nonneg x.toInt (show (2 : Int) ^ 31 ≠ 0 by decide)
  have e := Jvm.Kit.i32_rem_nonneg (x := x &&& 2147483647) (y := Int32.ofNat d) (by rw [h]; exact h1)
  rw [own_nat hd] at e
  have h2 := Int.emod_nonneg (x &&& 2147483647).toInt (show (d : Int) ≠ 0 by omega)
  have h3 := Int.emod_lt_of_pos (x &&& 2147483647).toInt (show (0 : Int) < d by omega)
  exact ⟨((x &&& 2147483647).toInt % d).toNat, by omega, own_eqNat (by rw [e]; omega)⟩
theorem own_lt {i n : Nat} (hi : i < 2 ^ 31) (hn : n < 2 ^ 31) : Int32.ofNat i < Int32.ofNat n ↔ i < n := by
  rw [Int32.lt_iff_toInt_lt, own_nat hi, own_nat hn]; omega
theorem own_inj {i n : Nat} (hi : i < 2 ^ 31) (hn : n < 2 ^ 31) : Int32.ofNat i = Int32.ofNat n ↔ i = n := by
  rw [← Int32.toInt_inj, own_nat hi, own_nat hn]; omega
theorem own_add {i n : Nat} (h : i + n < 2 ^ 31) : Int32.ofNat i + Int32.ofNat n = Int32.ofNat (i + n) :=
  own_eqNat (by rw [Jvm.Kit.i32_add (by rw [own_nat (by omega), own_nat (by omega)]; omega) (by rw [own_nat (by omega), own_nat (by omega)]; omega), own_nat (by omega), own_nat (by omega)]; omega)
end Jvm.RoadKit
namespace Jvm.RoadKit
open Sem ClassFile Op Lib Jvm.Stand Jvm.Free Jvm.LawKit
section Switch
variable {p : Program} {l : Launch} {e : Env} {R : Room} {s : State} {m : MethodId} {args : Array Value} {below : List Frame} {meth : Method} {c : Code} {T : State} {locs : List Loc} {cells slots : Nat}
theorem own_lswH (X : Stand p l e R s m args below meth c T locs cells slots) (hx : p.tables.exec = Jvm.exec) {g : JFrame} (hg : g.method = m) {k : Int32} {rest : List Value} {pc0 pc' : Nat} (hpc : g.pc = pc0)
    (hs : g.stack = .int k :: rest) {dflt : Int} {pairs : Array (Int × Int)} {len : Nat} (hd : decode c.code g.pc = .ok (.lookupswitch dflt pairs, len))
    (hsorted : (pairs.toList.zip (pairs.toList.drop 1)).all (fun (a, next) => a.1 < next.1) = true) {a off : Int} (hfind : pairs.find? (·.1 == k.toInt) = some (a, off)) (ho : 0 ≤ (pc0 : Int) + off) (hp : ((pc0 : Int) + off).toNat = pc')
    (target : State) (hr : Steps p.tables e below (T.setTop { g with pc := pc', stack := rest }) target) : Steps p.tables e below (T.setTop g) target := by
  subst hpc hp
  exact X.lookupswitchHit hx hg hs hd hsorted hfind ho target hr
theorem own_lswM (X : Stand p l e R s m args below meth c T locs cells slots) (hx : p.tables.exec = Jvm.exec) {g : JFrame} (hg : g.method = m) {k : Int32} {rest : List Value} {pc0 pc' : Nat} (hpc : g.pc = pc0)
    (hs : g.stack = .int k :: rest) {dflt : Int} {pairs : Array (Int × Int)} {len : Nat} (hd : decode c.code g.pc = .ok (.lookupswitch dflt pairs, len))
    (hsorted : (pairs.toList.zip (pairs.toList.drop 1)).all (fun (a, next) => a.1 < next.1) = true) (hfind : ∀ q ∈ pairs.toList, q.1 ≠ k.toInt) (ho : 0 ≤ (pc0 : Int) + dflt) (hp : ((pc0 : Int) + dflt).toNat = pc')
    (target : State) (hr : Steps p.tables e below (T.setTop { g with pc := pc', stack := rest }) target) : Steps p.tables e below (T.setTop g) target := by
  subst hpc hp
  exact X.lookupswitchMiss hx hg hs hd hsorted (find_miss hfind) ho target hr
theorem own_nk {x y : Int32} {z : Int} (hz : y.toInt = z) (h : ¬ x = y) : z ≠ x.toInt := fun q => h (Int32.toInt_inj.mp (q.symm.trans hz.symm))
end Switch
end Jvm.RoadKit
namespace Jvm.RoadKit
open Sem ClassFile Op Lib Jvm.Stand Jvm.Free Jvm.LawKit
section Statics
variable {Z : State} {args : Array Value} {C n d K : String} {t : Term} {a : Addr}
theorem own_sta (h : (Cond.exactly (.static C n d) K).value args Z none Z [] = some true) (hi : (Cond.initialized C).before args Z = true) (hl : (Cond.laysStatic C n d).before args Z = true) : ∃ a, (Term.static C n d).eval args Z none [] Z = some (.ref a) ∧ Sta Z Z.heap C n d (.ref a) ∧ Exa Z Z.heap a K := by
  obtain ⟨a, e⟩ := exa_v h
  exact ⟨a, e, Sta.start e (Or.inr ⟨hi, hl⟩), Exa.start e h⟩
theorem own_stfI {k : Int32} (e : t.eval args Z none [] Z = some (.ref a)) (h : (Cond.eq (.field t C n d) (.int k)).value args Z none Z [] = some true) : Fld Z Z.heap a C n d (.int k) := by
  apply Fld.start
  simp only [Cond.value, Term.eval, e, Option.bind_eq_bind, Option.bind_some] at h
  cases hf : Z.fieldOf? a C n d with
  | none => simp [hf] at h
  | some x => cases x <;> simp [hf] at h ⊢; exact h
theorem own_stfJ {k : Int64} (e : t.eval args Z none [] Z = some (.ref a)) (h : (Cond.eq (.field t C n d) (.long k)).value args Z none Z [] = some true) : Fld Z Z.heap a C n d (.long k) := by
  apply Fld.start
  simp only [Cond.value, Term.eval, e, Option.bind_eq_bind, Option.bind_some] at h
  cases hf : Z.fieldOf? a C n d with
  | none => simp [hf] at h
  | some x => cases x <;> simp [hf] at h ⊢; exact h
end Statics
end Jvm.RoadKit
namespace Jvm.RoadKit
open Sem ClassFile Op Lib Jvm.Stand Jvm.Free Jvm.LawKit
theorem own_lrem {tb : Tables} [Ours tb] {e : Env} {below : List Frame} {T target : State} {m : MethodId} {c : Code} {g : JFrame} (h : At T m c below) (hx : tb.exec = Jvm.exec) (hg : g.method = m) {x y : Int64} {rest : List Value} (hd : decode c.code g.pc = .ok (.lrem, 1)) (hs : g.stack = .long y :: .long x :: rest) (hy : y ≠ 0)
    (hr : Steps tb e below (T.setTop { g with pc := g.pc + 1, stack := .long (x % y) :: rest }) target) : Steps tb e below (T.setTop g) target :=
  XS.lrem h hx hg hd hs hy (by rw [lrem_mod]; exact hr)
theorem own_irem_mod (x y : Int32) : x - (x / y) * y = x % y := by
  apply Int32.toInt_inj.mp
  have h1 := Int32.le_toInt (x % y)
  have h2 := Int32.toInt_lt (x % y)
  rw [Int32.toInt_sub, Int32.toInt_mul, Int32.toInt_div, Int.bmod_mul_bmod, Int.sub_bmod_bmod, Int.mul_comm (x.toInt.tdiv y.toInt), ← Int.tmod_def, ← Int32.toInt_mod]
  exact Int.bmod_eq_of_le_mul_two (by omega) (by omega)
theorem own_irem {tb : Tables} [Ours tb] {e : Env} {below : List Frame} {T target : State} {m : MethodId} {c : Code} {g : JFrame} (h : At T m c below) (hx : tb.exec = Jvm.exec) (hg : g.method = m) {x y : Int32} {rest : List Value} (hd : decode c.code g.pc = .ok (.irem, 1)) (hs : g.stack = .int y :: .int x :: rest) (hy : y ≠ 0)
    (hr : Steps tb e below (T.setTop { g with pc := g.pc + 1, stack := .int (x % y) :: rest }) target) : Steps tb e below (T.setTop g) target :=
  XS.irem h hx hg hd hs hy (by rw [own_irem_mod]; exact hr)
theorem own_div1 (x : Int64) : x / 1 = x := Int64.toInt_inj.mp (by
  rw [Jvm.Kit.i64_div (fun q => by have := q.2; revert this; decide)]
  show x.toInt.tdiv 1 = x.toInt
  exact Int.tdiv_one _)
end Jvm.RoadKit
namespace Jvm.RoadKit
open Sem ClassFile Op Lib Jvm.Stand Jvm.Free Jvm.LawKit
theorem own_kx {h h' : Heap} (K : Keep h h' []) : Ext h h' := ⟨K.1, fun a c q => K.2.1 a c q nin0⟩
section Unlike
variable {Z : State} {a0 : Array Value}
theorem own_nsroot {O K : String} {n : Nat} (w : (Cond.noSuperclass O).before a0 Z = true) (wk : (Cond.instantiable K n).before a0 Z = true) (hn : O ≠ K) : NS Z O K := by
  obtain ⟨c, k, h1, h2, h3, -, -⟩ := Cond.noSuperclass_spec w
  obtain ⟨t, k', g1, g2, -⟩ := Cond.instantiable_spec wk
  have ne := ids_ne h1 g1 hn
  refine ⟨c, t, h1, g1, fun fuel => ?_⟩
  cases fuel with
  | zero => rfl
  | succ f => simp [Vm.isSubclassAux, ne, h2, h3]
theorem own_nsno {C S K : String} {n : Nat} (w : (Cond.superclass C S).before a0 Z = true) (wk : (Cond.instantiable K n).before a0 Z = true) (N : NS Z C K) (hn : C ≠ K) : ∃ c t, Z.vm.findClass C = some c ∧ Z.vm.findClass K = some t ∧ Z.vm.assignable c t = false := by
  obtain ⟨c, t, h0, g0, n3⟩ := N
  obtain ⟨p, k, kp, h1, h2, h3, h4, h5, -, h7⟩ := Cond.superclass_spec h0 w
  obtain ⟨t', k', g1, g2, g3, g4, -⟩ := Cond.instantiable_spec wk
  cases g0.symm.trans g1
  have g7 : k'.isInterface = false := by
    cases hq : k'.isInterface with
    | false => rfl
    | true => rw [hq] at g4; simp at g4
  have ne := ids_ne h0 g0 hn
  refine ⟨c, t, h0, g0, ?_⟩
  show Z.vm.assignableAux (255 + 1) c t = false
  simp [Vm.assignableAux, ne, h2, g2, h5, g3, g7, Vm.isSubclass, n3]
end Unlike
end Jvm.RoadKit
namespace Jvm.RoadKit
open Sem ClassFile Op Lib Jvm.Stand Jvm.Free Jvm.LawKit
section Clone
variable {p : Program} {l : Launch} {e : Env} {R : Room} {s : State} {m : MethodId} {args : Array Value} {below : List Frame} {meth : Method} {c : Code} {T : State} {locs : List Loc} {cells slots : Nat} {Z : State} {a0 : Array Value} {h : Heap} {a : Addr} {ty : FieldType} {n : Nat} {f : Nat → Int32}
theorem own_clone (X : Stand p l e R s m args below meth c T locs cells slots) (hx : p.tables.exec = Jvm.exec) (hZ : Z.Warmed39 s.vm) {own ad : String} {index : Nat} (hown : s.vm.findClass own = some m.cls)
    (w1 : (Cond.methodLink own index ⟨ad, "clone", "()Ljava/lang/Object;"⟩).before a0 Z = true) (w2 : (Cond.sameMethod ad "java/lang/Object" "clone" "()Ljava/lang/Object;").before a0 Z = true) (w3 : (Cond.native ⟨"java/lang/Object", "clone", "()Ljava/lang/Object;"⟩).before a0 Z = true)
    (w4 : (Cond.instanceMethod ⟨"java/lang/Object", "clone", "()Ljava/lang/Object;"⟩).before a0 Z = true) (w5 : (Cond.selects ad ⟨ad, "clone", "()Ljava/lang/Object;"⟩ ⟨"java/lang/Object", "clone", "()Ljava/lang/Object;"⟩).before a0 Z = true) (w6 : (Cond.castable ad "java/lang/Cloneable").before a0 Z = true)
    (eT : T.heap = h) (A : IA Z h a ty n f) (E : Exa Z h a ad) {g : JFrame} (hg : g.method = m) (hsize : g.locals.size = c.maxLocals) {rest : List Value} (hs : g.stack = .ref a :: rest) (hd : decode c.code g.pc = .ok (.invokevirtual index, 3))
    (hf : 1 ≤ R.frames) {W cap : Nat} (hW : 2 * g.monitorRoom + (rest.map fun v => v.category).sum ≤ W) (hl : W + 14 ≤ R.locals) (hcap : n ≤ cap) (hc : cells + 1 ≤ R.cells) (hsl : slots + cap ≤ R.slots) :
    ∃ T' h', Stand p l e R s m args below meth c T' locs (cells + 1) (slots + cap) ∧ T'.heap = h' ∧ Ext h h' ∧ IA Z h' h.size ty n f ∧ Exa Z h' h.size ad ∧
      ∀ target, Steps p.tables e below (T'.setTop { g with pc := g.pc + 3, stack := .ref h.size :: rest }) target → Steps p.tables e below (T.setTop g) target := by
  obtain ⟨cl, A, S, M, H⟩ := A
  have FC : FitC Z cl := fitC_of A fun i hi v hv => by
    rw [S] at hi
    rw [(H i hi).1] at hv
    cases hv
    exact (H i hi).2
  obtain ⟨T', h', X', e', ex, A', E', st⟩ := cloneA X hx hZ hown w1 w2 w3 w4 w5 w6 eT A E FC hg hsize hs hd hf hW hl (by rw [S]; exact hcap) hc hsl
  exact ⟨T', h', X', e', ex, ⟨cloneOf cl, A', S, M, H⟩, E', st⟩
end Clone
theorem own_sub {i n : Nat} (h : n ≤ i) (hi : i < 2 ^ 31) : Int32.ofNat i - Int32.ofNat n = Int32.ofNat (i - n) :=
  own_eqNat (by rw [Jvm.Kit.i32_sub (by rw [own_nat (by omega), own_nat (by omega)]; omega) (by rw [own_nat (by omega), own_nat (by omega)]; omega), own_nat (by omega), own_nat (by omega)]; omega)
end Jvm.RoadKit
namespace Jvm.RoadKit
open Sem ClassFile Op Lib Jvm.Stand Jvm.Free Jvm.LawKit
theorem own_stak {Z : State} {h h' : Heap} {C n d D : String} {v : Value} {a : Addr} (F : Sta Z h C n d v) (K : Keep h h' [a]) (E : Exa Z h a D) : Sta Z h' C n d v := by
  obtain ⟨cf, i, k, f, st, cell, h1, h2, h3, h4, h5, h6, h7⟩ := F
  obtain ⟨cell', k', e1, -, -, e4, -⟩ := E
  have ne : st ≠ a := fun q => by
    subst q
    cases h5.symm.trans e1
    rw [e4] at h6
    cases h6
  exact ⟨cf, i, k, f, st, cell, h1, h2, h3, h4, K.2.1 _ _ h5 (ninS ne nin0), h6, h7⟩
end Jvm.RoadKit
namespace Jvm.Pilot.@@N@@
open Jvm Jvm.ClassFile Sem Op Lib Jvm.Free Jvm.Stand Jvm.LawKit Jvm.RoadKit Bundle Jvm.Pilot.@@N@@.Jvm.D
theorem pd_0 : parseMethodDescriptor "()V" = some ⟨[], none⟩ := by decide +kernel
theorem pd_1 : parseMethodDescriptor "(II)V" = some ⟨[.int, .int], none⟩ := by decide +kernel
theorem pd_2 : parseMethodDescriptor "(Ljava/util/List;)V" = some ⟨[(.object "java/util/List")], none⟩ := by decide +kernel
theorem pd_3 : parseMethodDescriptor "(Lcom/example/surety/surety/Search;II)V" = some ⟨[(.object "com/example/surety/surety/Search"), .int, .int], none⟩ := by decide +kernel
theorem pd_4 : parseMethodDescriptor "(I)I" = some ⟨[.int], some .int⟩ := by decide +kernel
theorem d3_0 : decode jdk_22_method_1_code 0 = .ok (.aload_n 0, 1) := by decide +kernel
theorem d3_1 : decode jdk_22_method_1_code 1 = .ok (.invokespecial 1, 3) := by decide +kernel
theorem d3_4 : decode jdk_22_method_1_code 4 = .ok (.return_, 1) := by decide +kernel
theorem pn_3 : plainName "java/util/AbstractCollection" = true := by first | (simp [plainName, overriddenIn]; done) | decide +kernel
theorem ef_rm3 (m : MethodId) (x0 : Addr) : entryFrame m #[(.ref x0)] 1 = mkF m 0 #[.val (.ref x0)] [] := by first | (simp [entryFrame, mkF, argsToLocals, Value.category]; done) | rfl
set_option maxRecDepth 65536 in
set_option maxHeartbeats 40000000 in
theorem rm3 (l : Launch) (Z : State) (a0 : Array Value) (hw : ∀ d ∈ tables_1, d.before a0 Z = true) (ws : List Jvm.Cond) (r0 : Addr) (h0 : Heap) (n0 : Nat) (Z0 : n0 ≤ h0.size) :
    MetFree l (⟨"java/util/AbstractCollection", "<init>", "()V"⟩ : MethodName) (head1 (Jvm.Cond.code (⟨"java/util/AbstractCollection", "<init>", "()V"⟩ : MethodName) jdk_22_method_1_code 1 none :: ws) ({ frames := 1, cells := 0, slots := 0, locals := 12 } : Room)) (fun a U => a = #[(.ref r0)] ∧ Z.Warmed39 U.vm ∧ U.heap = h0) (fun _ _ _ _ _ => True) (fun _ U o U' => ∃ v L, o = .returned v ∧ Qn h0 n0 v U'.heap L ∧ FrameEnd U o U' L ({ frames := 1, cells := 0, slots := 0, locals := 12 } : Room).cells ({ frames := 1, cells := 0, slots := 0, locals := 12 } : Room).slots) := by
  refine MetFree.of_bodySF (plainFor_of_name pn_3) hisR ?_
  intro p e s m args below meth c s₁ Bd hml0 hP hK
  obtain ⟨rfl, hZ, hh⟩ := hP
  have hx := Bd.exec
  have hby := Bd.bytes
  have hml : c.maxLocals = 1 := hml0
  have hown : s.vm.findClass "java/util/AbstractCollection" = some m.cls := findClass_of_methodNamed Bd.named
  have hnm := (name_of_methodNamed Bd.named Bd.method).1
  have hlk : meth.locks = false := BodyLoose.notSynchronized Bd
  have X0 : Stand p l e ({ frames := 1, cells := 0, slots := 0, locals := 12 } : Room) s m #[(.ref r0)] below meth c s₁ [] 0 0 := Stand.of_body Bd
  have e0 : s₁.heap = h0 := by rw [← hh, Bd.state]; rfl
  have N0 := Fr.nil n0
  have K0 : Keep h0 h0 [] := Keep.refl _ _
  show Goes p e below s (Qn h0 n0) ({ frames := 1, cells := 0, slots := 0, locals := 12 } : Room).cells ({ frames := 1, cells := 0, slots := 0, locals := 12 } : Room).slots (s₁.setTop (entryFrame m #[(.ref r0)] 1))
  rw [ef_rm3]
  show Goes p e below s _ _ _ (s₁.setTop (mkF m 0 #[.val (.ref r0)] []))
  refine Goes.go (fun _ kst => XS.aloadN X0.here hx rfl (hb hby d3_0) rfl rfl  kst) ?_
  show Goes p e below s _ _ _ (s₁.setTop (mkF m 1 #[.val (.ref r0)] [(.ref r0)]))
  obtain ⟨T1, X1, e1, st1⟩ := initO X0 hx hZ hown (hw _ (List.mem_of_getElem? (i := 21) rfl)) (hw _ (List.mem_of_getElem? (i := 22) rfl)) (hw _ (List.mem_of_getElem? (i := 23) rfl)) e0 (g := (mkF m 1 #[.val (.ref r0)] [(.ref r0)])) rfl (by rw [hml]; rfl) rfl (hb hby d3_1) (by decide) (W := 0) (by show 2 * 0 + _ ≤ _; exact Nat.le_of_eq rfl) (by decide)
  refine Goes.go st1 ?_
  show Goes p e below s _ _ _ (T1.setTop (mkF m 4 #[.val (.ref r0)] []))
  refine Goes.ret0 X1 hx hlk Bd.returns (hb hby d3_4) ?_ (by decide) (by decide)
  exact ⟨rfl, N0, e1⟩
theorem d2_0 : decode jdk_39_method_1_code 0 = .ok (.aload_n 0, 1) := by decide +kernel
theorem d2_1 : decode jdk_39_method_1_code 1 = .ok (.invokespecial 1, 3) := by decide +kernel
theorem d2_4 : decode jdk_39_method_1_code 4 = .ok (.aload_n 0, 1) := by decide +kernel
theorem d2_5 : decode jdk_39_method_1_code 5 = .ok (.iconst 0, 1) := by decide +kernel
theorem d2_6 : decode jdk_39_method_1_code 6 = .ok (.putfield 7, 3) := by decide +kernel
theorem d2_9 : decode jdk_39_method_1_code 9 = .ok (.return_, 1) := by decide +kernel
theorem pn_2 : plainName "java/util/AbstractList" = true := by first | (simp [plainName, overriddenIn]; done) | decide +kernel
theorem ef_rm2 (m : MethodId) (x0 : Addr) : entryFrame m #[(.ref x0)] 1 = mkF m 0 #[.val (.ref x0)] [] := by first | (simp [entryFrame, mkF, argsToLocals, Value.category]; done) | rfl
def Q_rm2 (Z : State) (r0 : Addr) (h0 : Heap) (n0 : Nat) (v : Option Value) (h : Heap) (L : List Loc) : Prop := v = none ∧ Fr n0 L ∧ Keep h0 h [r0] ∧ Exa Z h r0 "java/util/ArrayList" ∧ Fld Z h r0 "java/util/ArrayList" "elementData" "[Ljava/lang/Object;" .null
set_option maxRecDepth 65536 in
set_option maxHeartbeats 40000000 in
theorem rm2 (l : Launch) (Z : State) (a0 : Array Value) (hw : ∀ d ∈ tables_1, d.before a0 Z = true) (ws : List Jvm.Cond) (r0 : Addr) (h0 : Heap) (n0 : Nat) (Z0 : n0 ≤ h0.size) (E_r0 : Exa Z h0 r0 "java/util/ArrayList") (g_r0 : n0 ≤ r0) (F_r0_modCount : Fld Z h0 r0 "java/util/AbstractList" "modCount" "I" (.int (0 : Int32))) (F_r0_elementData : Fld Z h0 r0 "java/util/ArrayList" "elementData" "[Ljava/lang/Object;" .null) :
    MetFree l (⟨"java/util/AbstractList", "<init>", "()V"⟩ : MethodName) (head1 (Jvm.Cond.code (⟨"java/util/AbstractList", "<init>", "()V"⟩ : MethodName) jdk_39_method_1_code 1 none :: ws) ({ frames := 2, cells := 0, slots := 0, locals := 24 } : Room)) (fun a U => a = #[(.ref r0)] ∧ Z.Warmed39 U.vm ∧ U.heap = h0) (fun _ _ _ _ _ => True) (fun _ U o U' => ∃ v L, o = .returned v ∧ Q_rm2 Z r0 h0 n0 v U'.heap L ∧ FrameEnd U o U' L ({ frames := 2, cells := 0, slots := 0, locals := 24 } : Room).cells ({ frames := 2, cells := 0, slots := 0, locals := 24 } : Room).slots) := by
  refine MetFree.of_bodySF (plainFor_of_name pn_2) hisR ?_
  intro p e s m args below meth c s₁ Bd hml0 hP hK
  obtain ⟨rfl, hZ, hh⟩ := hP
  have hx := Bd.exec
  have hby := Bd.bytes
  have hml : c.maxLocals = 1 := hml0
  have hown : s.vm.findClass "java/util/AbstractList" = some m.cls := findClass_of_methodNamed Bd.named
  have hnm := (name_of_methodNamed Bd.named Bd.method).1
  have hlk : meth.locks = false := BodyLoose.notSynchronized Bd
  have X0 : Stand p l e ({ frames := 2, cells := 0, slots := 0, locals := 24 } : Room) s m #[(.ref r0)] below meth c s₁ [] 0 0 := Stand.of_body Bd
  have e0 : s₁.heap = h0 := by rw [← hh, Bd.state]; rfl
  have N0 := Fr.nil n0
  have K0 : Keep h0 h0 [r0] := Keep.refl _ _
  show Goes p e below s (Q_rm2 Z r0 h0 n0) ({ frames := 2, cells := 0, slots := 0, locals := 24 } : Room).cells ({ frames := 2, cells := 0, slots := 0, locals := 24 } : Room).slots (s₁.setTop (entryFrame m #[(.ref r0)] 1))
  rw [ef_rm2]
  show Goes p e below s _ _ _ (s₁.setTop (mkF m 0 #[.val (.ref r0)] []))
  refine Goes.go (fun _ kst => XS.aloadN X0.here hx rfl (hb hby d2_0) rfl rfl  kst) ?_
  show Goes p e below s _ _ _ (s₁.setTop (mkF m 1 #[.val (.ref r0)] [(.ref r0)]))
  obtain ⟨_, _, ⟨T1, L1, k1, n1⟩, -, X1, ⟨Lc1, hQ1, l1, y1, z1⟩, st1⟩ := X0.specialBack hx (y := (⟨"java/util/AbstractCollection", "<init>", "()V"⟩ : MethodName)) rfl hown (mvT hZ (hw _ (List.mem_of_getElem? (i := 15) rfl))) (mvT hZ (hw _ (List.mem_of_getElem? (i := 16) rfl))) (mvT hZ (hw _ (List.mem_of_getElem? (i := 20) rfl))) (by decide) (backOf (W := 0) (rm3 l Z a0 hw [] r0 h0 n0 Z0 ) hZ (hw _ (List.mem_of_getElem? (i := 20) rfl)) (hw _ (List.mem_of_getElem? (i := 19) rfl)) (by decide) (by decide)) (g := (mkF m 1 #[.val (.ref r0)] [(.ref r0)])) rfl (by rw [hml]; rfl) (Steps.refl _) (a := r0) (argsL := []) (rest := []) (lenOf pd_0 rfl) rfl (by show 2 * 0 + _ ≤ _; exact Nat.le_of_eq rfl) (hb hby d2_1) (fun _ _ => ⟨rfl, e0, (by decide : 0 + 0 ≤ _), (by decide : 0 + 0 ≤ _)⟩)
  dsimp only [Pt.U, Pt.locs, Pt.cells, Pt.slots] at X1 l1 y1 z1 st1 hQ1
  subst l1 y1 z1
  obtain ⟨rfl, N1q, e1⟩ := hQ1
  have N1 := Fr.app N0 N1q
  refine Goes.tr st1 ?_
  show Goes p e below s _ _ _ (T1.setTop (mkF m 4 #[.val (.ref r0)] []))
  refine Goes.go (fun _ kst => XS.aloadN X1.here hx rfl (hb hby d2_4) rfl rfl  kst) ?_
  show Goes p e below s _ _ _ (T1.setTop (mkF m 5 #[.val (.ref r0)] [(.ref r0)]))
  refine Goes.go (fun _ kst => XS.iconst X1.here hx rfl (hb hby d2_5) kst) ?_
  show Goes p e below s _ _ _ (T1.setTop (mkF m 6 #[.val (.ref r0)] [(.int (0 : Int32)), (.ref r0)]))
  obtain ⟨T2, h2, X2, e2, W2, st2⟩ := putF X1 hx hZ hown (host := "") (Or.inl (hw _ (List.mem_of_getElem? (i := 24) rfl))) Via.refl e1 F_r0_modCount E_r0 (Or.inl (hw _ (List.mem_of_getElem? (i := 25) rfl))) (hw _ (List.mem_of_getElem? (i := 4) rfl)) (ty := .int) (by decide) rfl rfl (g := (mkF m 6 #[.val (.ref r0)] [(.int (0 : Int32)), (.ref r0)])) rfl rfl (hb hby d2_6)
  have Fw2 := F_r0_modCount.same W2
  have N2 := Fr.snoc X2 N1 g_r0
  have Z2 := Nat.le_trans Z0 (Keep.of_wr W2).1
  have K2 := Keep.wr K0 W2 (Or.inl (List.mem_of_getElem? (i := 0) rfl))
  refine Goes.go st2 ?_
  show Goes p e below s _ _ _ (T2.setTop (mkF m 9 #[.val (.ref r0)] []))
  refine Goes.ret0 X2 hx hlk Bd.returns (hb hby d2_9) ?_ (by decide) (by decide)
  exact (show Q_rm2 Z r0 h0 n0 _ T2.heap _ by rw [e2]; exact ⟨rfl, N2, K2, (E_r0.wr W2), (F_r0_elementData.other W2 (Or.inr (slot_ne (Or.inl (hw _ (List.mem_of_getElem? (i := 28) rfl))) (Or.inl (hw _ (List.mem_of_getElem? (i := 25) rfl))) (by decide) (t := (.array (.object "java/lang/Object"))) (t' := .int) (by decide) (by decide))))⟩)
theorem d1_0 : decode jdk_38_method_2_code 0 = .ok (.aload_n 0, 1) := by decide +kernel
theorem d1_1 : decode jdk_38_method_2_code 1 = .ok (.invokespecial 1, 3) := by decide +kernel
theorem d1_4 : decode jdk_38_method_2_code 4 = .ok (.aload_n 0, 1) := by decide +kernel
theorem d1_5 : decode jdk_38_method_2_code 5 = .ok (.getstatic 39, 3) := by decide +kernel
theorem d1_8 : decode jdk_38_method_2_code 8 = .ok (.putfield 9, 3) := by decide +kernel
theorem d1_11 : decode jdk_38_method_2_code 11 = .ok (.return_, 1) := by decide +kernel
theorem pn_1 : plainName "java/util/ArrayList" = true := by first | (simp [plainName, overriddenIn]; done) | decide +kernel
theorem ef_rm1 (m : MethodId) (x0 : Addr) : entryFrame m #[(.ref x0)] 1 = mkF m 0 #[.val (.ref x0)] [] := by first | (simp [entryFrame, mkF, argsToLocals, Value.category]; done) | rfl
def Q_rm1 (Z : State) (r0 : Addr) (dc : Addr) (h0 : Heap) (n0 : Nat) (v : Option Value) (h : Heap) (L : List Loc) : Prop := v = none ∧ Fr n0 L ∧ Keep h0 h [r0] ∧ Exa Z h r0 "java/util/ArrayList"
set_option maxRecDepth 65536 in
set_option maxHeartbeats 40000000 in
theorem rm1 (l : Launch) (Z : State) (a0 : Array Value) (hw : ∀ d ∈ tables_1, d.before a0 Z = true) (ws : List Jvm.Cond) (r0 : Addr) (dc : Addr) (h0 : Heap) (n0 : Nat) (Z0 : n0 ≤ h0.size) (E_r0 : Exa Z h0 r0 "java/util/ArrayList") (g_r0 : n0 ≤ r0) (F_r0_modCount : Fld Z h0 r0 "java/util/AbstractList" "modCount" "I" (.int (0 : Int32))) (F_r0_elementData : Fld Z h0 r0 "java/util/ArrayList" "elementData" "[Ljava/lang/Object;" .null) (S_DEFAULTCAPACITY_EMPTY_ELEMENTDATA : Sta Z h0 "java/util/ArrayList" "DEFAULTCAPACITY_EMPTY_ELEMENTDATA" "[Ljava/lang/Object;" (.ref dc)) :
    MetFree l (⟨"java/util/ArrayList", "<init>", "()V"⟩ : MethodName) (head1 (Jvm.Cond.code (⟨"java/util/ArrayList", "<init>", "()V"⟩ : MethodName) jdk_38_method_2_code 1 none :: ws) ({ frames := 3, cells := 0, slots := 0, locals := 36 } : Room)) (fun a U => a = #[(.ref r0)] ∧ Z.Warmed39 U.vm ∧ U.heap = h0) (fun _ _ _ _ _ => True) (fun _ U o U' => ∃ v L, o = .returned v ∧ Q_rm1 Z r0 dc h0 n0 v U'.heap L ∧ FrameEnd U o U' L ({ frames := 3, cells := 0, slots := 0, locals := 36 } : Room).cells ({ frames := 3, cells := 0, slots := 0, locals := 36 } : Room).slots) := by
  refine MetFree.of_bodySF (plainFor_of_name pn_1) hisR ?_
  intro p e s m args below meth c s₁ Bd hml0 hP hK
  obtain ⟨rfl, hZ, hh⟩ := hP
  have hx := Bd.exec
  have hby := Bd.bytes
  have hml : c.maxLocals = 1 := hml0
  have hown : s.vm.findClass "java/util/ArrayList" = some m.cls := findClass_of_methodNamed Bd.named
  have hnm := (name_of_methodNamed Bd.named Bd.method).1
  have hlk : meth.locks = false := BodyLoose.notSynchronized Bd
  have X0 : Stand p l e ({ frames := 3, cells := 0, slots := 0, locals := 36 } : Room) s m #[(.ref r0)] below meth c s₁ [] 0 0 := Stand.of_body Bd
  have e0 : s₁.heap = h0 := by rw [← hh, Bd.state]; rfl
  have N0 := Fr.nil n0
  have K0 : Keep h0 h0 [r0] := Keep.refl _ _
  show Goes p e below s (Q_rm1 Z r0 dc h0 n0) ({ frames := 3, cells := 0, slots := 0, locals := 36 } : Room).cells ({ frames := 3, cells := 0, slots := 0, locals := 36 } : Room).slots (s₁.setTop (entryFrame m #[(.ref r0)] 1))
  rw [ef_rm1]
  show Goes p e below s _ _ _ (s₁.setTop (mkF m 0 #[.val (.ref r0)] []))
  refine Goes.go (fun _ kst => XS.aloadN X0.here hx rfl (hb hby d1_0) rfl rfl  kst) ?_
  show Goes p e below s _ _ _ (s₁.setTop (mkF m 1 #[.val (.ref r0)] [(.ref r0)]))
  obtain ⟨_, _, ⟨T1, L1, k1, n1⟩, -, X1, ⟨Lc1, hQ1, l1, y1, z1⟩, st1⟩ := X0.specialBack hx (y := (⟨"java/util/AbstractList", "<init>", "()V"⟩ : MethodName)) rfl hown (mvT hZ (hw _ (List.mem_of_getElem? (i := 9) rfl))) (mvT hZ (hw _ (List.mem_of_getElem? (i := 10) rfl))) (mvT hZ (hw _ (List.mem_of_getElem? (i := 14) rfl))) (by decide) (backOf (W := 0) (rm2 l Z a0 hw [] r0 h0 n0 Z0 E_r0 g_r0 F_r0_modCount F_r0_elementData) hZ (hw _ (List.mem_of_getElem? (i := 14) rfl)) (hw _ (List.mem_of_getElem? (i := 13) rfl)) (by decide) (by decide)) (g := (mkF m 1 #[.val (.ref r0)] [(.ref r0)])) rfl (by rw [hml]; rfl) (Steps.refl _) (a := r0) (argsL := []) (rest := []) (lenOf pd_0 rfl) rfl (by show 2 * 0 + _ ≤ _; exact Nat.le_of_eq rfl) (hb hby d1_1) (fun _ _ => ⟨rfl, e0, (by decide : 0 + 0 ≤ _), (by decide : 0 + 0 ≤ _)⟩)
  dsimp only [Pt.U, Pt.locs, Pt.cells, Pt.slots] at X1 l1 y1 z1 st1 hQ1
  subst l1 y1 z1
  obtain ⟨h1, e1⟩ : ∃ z, T1.heap = z := ⟨_, rfl⟩
  rw [e1] at hQ1
  obtain ⟨rfl, N1q, Kq1, G1_0, G1_1⟩ := hQ1
  have N1 := Fr.app N0 N1q
  have K1 := Keep.trans K0 Kq1 (allS (Or.inl (List.mem_of_getElem? (i := 0) rfl)) all0)
  have Z1 := Nat.le_trans Z0 Kq1.1
  refine Goes.tr st1 ?_
  show Goes p e below s _ _ _ (T1.setTop (mkF m 4 #[.val (.ref r0)] []))
  refine Goes.go (fun _ kst => XS.aloadN X1.here hx rfl (hb hby d1_4) rfl rfl  kst) ?_
  show Goes p e below s _ _ _ (T1.setTop (mkF m 5 #[.val (.ref r0)] [(.ref r0)]))
  obtain ⟨T2, X2, e2, st2⟩ := getS2 X1 hx hZ hown (host := "") (Or.inl (hw _ (List.mem_of_getElem? (i := 26) rfl))) Via.refl e1 (own_stak S_DEFAULTCAPACITY_EMPTY_ELEMENTDATA Kq1 E_r0) (g := (mkF m 5 #[.val (.ref r0)] [(.ref r0)])) rfl (hb hby d1_5)
  refine Goes.go st2 ?_
  show Goes p e below s _ _ _ (T2.setTop (mkF m 8 #[.val (.ref r0)] [(.ref dc), (.ref r0)]))
  obtain ⟨T3, h3, X3, e3, W3, st3⟩ := putF X2 hx hZ hown (host := "") (Or.inl (hw _ (List.mem_of_getElem? (i := 27) rfl))) Via.refl e2 G1_1 G1_0 (Or.inl (hw _ (List.mem_of_getElem? (i := 28) rfl))) (hw _ (List.mem_of_getElem? (i := 4) rfl)) (ty := (.array (.object "java/lang/Object"))) (by decide) rfl rfl (g := (mkF m 8 #[.val (.ref r0)] [(.ref dc), (.ref r0)])) rfl rfl (hb hby d1_8)
  have Fw3 := G1_1.same W3
  have N3 := Fr.snoc X3 N1 g_r0
  have Z3 := Nat.le_trans Z1 (Keep.of_wr W3).1
  have K3 := Keep.wr K1 W3 (Or.inl (List.mem_of_getElem? (i := 0) rfl))
  refine Goes.go st3 ?_
  show Goes p e below s _ _ _ (T3.setTop (mkF m 11 #[.val (.ref r0)] []))
  refine Goes.ret0 X3 hx hlk Bd.returns (hb hby d1_11) ?_ (by decide) (by decide)
  exact (show Q_rm1 Z r0 dc h0 n0 _ T3.heap _ by rw [e3]; exact ⟨rfl, N3, K3, (G1_0.wr W3)⟩)
theorem d5_0 : decode prog_182_method_1_code 0 = .ok (.aload_n 0, 1) := by decide +kernel
theorem d5_1 : decode prog_182_method_1_code 1 = .ok (.invokespecial 1, 3) := by decide +kernel
theorem d5_4 : decode prog_182_method_1_code 4 = .ok (.aload_n 0, 1) := by decide +kernel
theorem d5_5 : decode prog_182_method_1_code 5 = .ok (.bipush 16, 2) := by decide +kernel
theorem d5_7 : decode prog_182_method_1_code 7 = .ok (.newarray .int, 2) := by decide +kernel
theorem d5_9 : decode prog_182_method_1_code 9 = .ok (.putfield 7, 3) := by decide +kernel
theorem d5_12 : decode prog_182_method_1_code 12 = .ok (.aload_n 0, 1) := by decide +kernel
theorem d5_13 : decode prog_182_method_1_code 13 = .ok (.bipush 16, 2) := by decide +kernel
theorem d5_15 : decode prog_182_method_1_code 15 = .ok (.newarray .int, 2) := by decide +kernel
theorem d5_17 : decode prog_182_method_1_code 17 = .ok (.putfield 13, 3) := by decide +kernel
theorem d5_20 : decode prog_182_method_1_code 20 = .ok (.aload_n 0, 1) := by decide +kernel
theorem d5_21 : decode prog_182_method_1_code 21 = .ok (.iconst 1, 1) := by decide +kernel
theorem d5_22 : decode prog_182_method_1_code 22 = .ok (.putfield 16, 3) := by decide +kernel
theorem d5_25 : decode prog_182_method_1_code 25 = .ok (.aload_n 0, 1) := by decide +kernel
theorem d5_26 : decode prog_182_method_1_code 26 = .ok (.iconst (-1), 1) := by decide +kernel
theorem d5_27 : decode prog_182_method_1_code 27 = .ok (.putfield 20, 3) := by decide +kernel
theorem d5_30 : decode prog_182_method_1_code 30 = .ok (.aload_n 0, 1) := by decide +kernel
theorem d5_31 : decode prog_182_method_1_code 31 = .ok (.iconst (-1), 1) := by decide +kernel
theorem d5_32 : decode prog_182_method_1_code 32 = .ok (.putfield 23, 3) := by decide +kernel
theorem d5_35 : decode prog_182_method_1_code 35 = .ok (.aload_n 0, 1) := by decide +kernel
theorem d5_36 : decode prog_182_method_1_code 36 = .ok (.aload_n 1, 1) := by decide +kernel
theorem d5_37 : decode prog_182_method_1_code 37 = .ok (.putfield 26, 3) := by decide +kernel
theorem d5_40 : decode prog_182_method_1_code 40 = .ok (.return_, 1) := by decide +kernel
theorem pn_5 : plainName "com/example/surety/surety/Search" = true := by first | (simp [plainName, overriddenIn]; done) | decide +kernel
theorem ef_rm5 (m : MethodId) (x0 : Addr) (x1 : Addr) : entryFrame m #[(.ref x0), (.ref x1)] 2 = mkF m 0 #[.val (.ref x0), .val (.ref x1)] [] := by first | (simp [entryFrame, mkF, argsToLocals, Value.category]; done) | rfl
def Q_rm5 (Z : State) (r0 : Addr) (r1 : Addr) (h0 : Heap) (n0 : Nat) (v : Option Value) (h : Heap) (L : List Loc) : Prop := v = none ∧ Fr n0 L ∧ Keep h0 h [r0] ∧ Exa Z h r0 "com/example/surety/surety/Search" ∧ Fld Z h r0 "com/example/surety/surety/Search" "reached" "I" (.int (1 : Int32)) ∧ Fld Z h r0 "com/example/surety/surety/Search" "state" "I" (.int (0 : Int32)) ∧ Fld Z h r0 "com/example/surety/surety/Search" "outgoing" "I" (.int (0 : Int32)) ∧ Fld Z h r0 "com/example/surety/surety/Search" "terminated" "Z" (.int (0 : Int32)) ∧ Fld Z h r0 "com/example/surety/surety/Search" "transitions" "J" (.long (0 : Int64)) ∧ Fld Z h r0 "com/example/surety/surety/Search" "firstStuck" "I" (.int (-1 : Int32)) ∧ Fld Z h r0 "com/example/surety/surety/Search" "secondStuck" "I" (.int (-1 : Int32))
set_option maxRecDepth 65536 in
set_option maxHeartbeats 40000000 in
theorem rm5 (l : Launch) (Z : State) (a0 : Array Value) (hw : ∀ d ∈ tables_1, d.before a0 Z = true) (ws : List Jvm.Cond) (r0 : Addr) (r1 : Addr) (h0 : Heap) (n0 : Nat) (Z0 : n0 ≤ h0.size) (E_r0 : Exa Z h0 r0 "com/example/surety/surety/Search") (g_r0 : n0 ≤ r0) (F_r0_parents : Fld Z h0 r0 "com/example/surety/surety/Search" "parents" "[I" .null) (F_r0_actions : Fld Z h0 r0 "com/example/surety/surety/Search" "actions" "[I" .null) (F_r0_reached : Fld Z h0 r0 "com/example/surety/surety/Search" "reached" "I" (.int (0 : Int32))) (F_r0_firstStuck : Fld Z h0 r0 "com/example/surety/surety/Search" "firstStuck" "I" (.int (0 : Int32))) (F_r0_secondStuck : Fld Z h0 r0 "com/example/surety/surety/Search" "secondStuck" "I" (.int (0 : Int32))) (F_r0_alphabet : Fld Z h0 r0 "com/example/surety/surety/Search" "alphabet" "Ljava/util/List;" .null) (F_r0_outgoing : Fld Z h0 r0 "com/example/surety/surety/Search" "outgoing" "I" (.int (0 : Int32))) (F_r0_terminated : Fld Z h0 r0 "com/example/surety/surety/Search" "terminated" "Z" (.int (0 : Int32))) (F_r0_state : Fld Z h0 r0 "com/example/surety/surety/Search" "state" "I" (.int (0 : Int32))) (F_r0_transitions : Fld Z h0 r0 "com/example/surety/surety/Search" "transitions" "J" (.long (0 : Int64))) :
    MetFree l (⟨"com/example/surety/surety/Search", "<init>", "(Ljava/util/List;)V"⟩ : MethodName) (head1 (Jvm.Cond.code (⟨"com/example/surety/surety/Search", "<init>", "(Ljava/util/List;)V"⟩ : MethodName) prog_182_method_1_code 2 none :: ws) ({ frames := 1, cells := 2, slots := 32, locals := 12 } : Room)) (fun a U => a = #[(.ref r0), (.ref r1)] ∧ Z.Warmed39 U.vm ∧ U.heap = h0) (fun _ _ _ _ _ => True) (fun _ U o U' => ∃ v L, o = .returned v ∧ Q_rm5 Z r0 r1 h0 n0 v U'.heap L ∧ FrameEnd U o U' L ({ frames := 1, cells := 2, slots := 32, locals := 12 } : Room).cells ({ frames := 1, cells := 2, slots := 32, locals := 12 } : Room).slots) := by
  refine MetFree.of_bodySF (plainFor_of_name pn_5) hisR ?_
  intro p e s m args below meth c s₁ Bd hml0 hP hK
  obtain ⟨rfl, hZ, hh⟩ := hP
  have hx := Bd.exec
  have hby := Bd.bytes
  have hml : c.maxLocals = 2 := hml0
  have hown : s.vm.findClass "com/example/surety/surety/Search" = some m.cls := findClass_of_methodNamed Bd.named
  have hnm := (name_of_methodNamed Bd.named Bd.method).1
  have hlk : meth.locks = false := BodyLoose.notSynchronized Bd
  have X0 : Stand p l e ({ frames := 1, cells := 2, slots := 32, locals := 12 } : Room) s m #[(.ref r0), (.ref r1)] below meth c s₁ [] 0 0 := Stand.of_body Bd
  have e0 : s₁.heap = h0 := by rw [← hh, Bd.state]; rfl
  have N0 := Fr.nil n0
  have K0 : Keep h0 h0 [r0] := Keep.refl _ _
  show Goes p e below s (Q_rm5 Z r0 r1 h0 n0) ({ frames := 1, cells := 2, slots := 32, locals := 12 } : Room).cells ({ frames := 1, cells := 2, slots := 32, locals := 12 } : Room).slots (s₁.setTop (entryFrame m #[(.ref r0), (.ref r1)] 2))
  rw [ef_rm5]
  show Goes p e below s _ _ _ (s₁.setTop (mkF m 0 #[.val (.ref r0), .val (.ref r1)] []))
  refine Goes.go (fun _ kst => XS.aloadN X0.here hx rfl (hb hby d5_0) rfl rfl  kst) ?_
  show Goes p e below s _ _ _ (s₁.setTop (mkF m 1 #[.val (.ref r0), .val (.ref r1)] [(.ref r0)]))
  obtain ⟨T1, X1, e1, st1⟩ := initO X0 hx hZ hown (hw _ (List.mem_of_getElem? (i := 32) rfl)) (hw _ (List.mem_of_getElem? (i := 22) rfl)) (hw _ (List.mem_of_getElem? (i := 23) rfl)) e0 (g := (mkF m 1 #[.val (.ref r0), .val (.ref r1)] [(.ref r0)])) rfl (by rw [hml]; rfl) rfl (hb hby d5_1) (by decide) (W := 0) (by show 2 * 0 + _ ≤ _; exact Nat.le_of_eq rfl) (by decide)
  refine Goes.go st1 ?_
  show Goes p e below s _ _ _ (T1.setTop (mkF m 4 #[.val (.ref r0), .val (.ref r1)] []))
  refine Goes.go (fun _ kst => XS.aloadN X1.here hx rfl (hb hby d5_4) rfl rfl  kst) ?_
  show Goes p e below s _ _ _ (T1.setTop (mkF m 5 #[.val (.ref r0), .val (.ref r1)] [(.ref r0)]))
  refine Goes.go (fun _ kst => XS.bipush X1.here hx rfl (hb hby d5_5) kst) ?_
  show Goes p e below s _ _ _ (T1.setTop (mkF m 7 #[.val (.ref r0), .val (.ref r1)] [(.int (16 : Int32)), (.ref r0)]))
  obtain ⟨T2, h2, X2, e2, E2, A2, EA2, st2⟩ := own_newA X1 hx hZ (hw _ (List.mem_of_getElem? (i := 33) rfl)) e1 (g := (mkF m 7 #[.val (.ref r0), .val (.ref r1)] [(.int (16 : Int32)), (.ref r0)])) rfl (hb hby d5_7) rfl (n := 16) rfl (cap := 16) (Nat.le_refl _) (by decide) (by decide) (by decide) (by decide) (by decide) (by decide : _ = "[I")
  obtain ⟨b2, g2⟩ : ∃ z, z = h0.size := ⟨_, rfl⟩
  rw [← g2] at A2 EA2 st2
  have gb2 : n0 ≤ b2 := Nat.le_trans Z0 (Nat.le_of_eq g2.symm)
  have sb2 : h0.size ≤ b2 := Nat.le_trans K0.1 (Nat.le_of_eq g2.symm)
  have Z2 := Nat.le_trans Z0 E2.1
  have K2 := Keep.ext K0 E2
  refine Goes.go st2 ?_
  show Goes p e below s _ _ _ (T2.setTop (mkF m 9 #[.val (.ref r0), .val (.ref r1)] [(.ref b2), (.ref r0)]))
  obtain ⟨T3, h3, X3, e3, W3, st3⟩ := putF X2 hx hZ hown (host := "") (Or.inl (hw _ (List.mem_of_getElem? (i := 34) rfl))) Via.refl e2 (F_r0_parents.ext E2) (E_r0.ext E2) (Or.inl (hw _ (List.mem_of_getElem? (i := 35) rfl))) (hw _ (List.mem_of_getElem? (i := 1) rfl)) (ty := (.array .int)) (by decide) rfl rfl (g := (mkF m 9 #[.val (.ref r0), .val (.ref r1)] [(.ref b2), (.ref r0)])) rfl rfl (hb hby d5_9)
  have Fw3 := (F_r0_parents.ext E2).same W3
  have N3 := Fr.snoc X3 N0 g_r0
  have Z3 := Nat.le_trans Z2 (Keep.of_wr W3).1
  have K3 := Keep.wr K2 W3 (Or.inl (List.mem_of_getElem? (i := 0) rfl))
  refine Goes.go st3 ?_
  show Goes p e below s _ _ _ (T3.setTop (mkF m 12 #[.val (.ref r0), .val (.ref r1)] []))
  refine Goes.go (fun _ kst => XS.aloadN X3.here hx rfl (hb hby d5_12) rfl rfl  kst) ?_
  show Goes p e below s _ _ _ (T3.setTop (mkF m 13 #[.val (.ref r0), .val (.ref r1)] [(.ref r0)]))
  refine Goes.go (fun _ kst => XS.bipush X3.here hx rfl (hb hby d5_13) kst) ?_
  show Goes p e below s _ _ _ (T3.setTop (mkF m 15 #[.val (.ref r0), .val (.ref r1)] [(.int (16 : Int32)), (.ref r0)]))
  obtain ⟨T4, h4, X4, e4, E4, A4, EA4, st4⟩ := own_newA X3 hx hZ (hw _ (List.mem_of_getElem? (i := 33) rfl)) e3 (g := (mkF m 15 #[.val (.ref r0), .val (.ref r1)] [(.int (16 : Int32)), (.ref r0)])) rfl (hb hby d5_15) rfl (n := 16) rfl (cap := 16) (Nat.le_refl _) (by decide) (by decide) (by decide) (by decide) (by decide) (by decide : _ = "[I")
  obtain ⟨b4, g4⟩ : ∃ z, z = h3.size := ⟨_, rfl⟩
  rw [← g4] at A4 EA4 st4
  have gb4 : n0 ≤ b4 := Nat.le_trans Z3 (Nat.le_of_eq g4.symm)
  have sb4 : h0.size ≤ b4 := Nat.le_trans K3.1 (Nat.le_of_eq g4.symm)
  have Z4 := Nat.le_trans Z3 E4.1
  have K4 := Keep.ext K3 E4
  refine Goes.go st4 ?_
  show Goes p e below s _ _ _ (T4.setTop (mkF m 17 #[.val (.ref r0), .val (.ref r1)] [(.ref b4), (.ref r0)]))
  obtain ⟨T5, h5, X5, e5, W5, st5⟩ := putF X4 hx hZ hown (host := "") (Or.inl (hw _ (List.mem_of_getElem? (i := 36) rfl))) Via.refl e4 (((F_r0_actions.ext E2).other W3 (Or.inr (slot_ne (Or.inl (hw _ (List.mem_of_getElem? (i := 37) rfl))) (Or.inl (hw _ (List.mem_of_getElem? (i := 35) rfl))) (by decide) (t := (.array .int)) (t' := (.array .int)) (by decide) (by decide)))).ext E4) (((E_r0.ext E2).wr W3).ext E4) (Or.inl (hw _ (List.mem_of_getElem? (i := 37) rfl))) (hw _ (List.mem_of_getElem? (i := 1) rfl)) (ty := (.array .int)) (by decide) rfl rfl (g := (mkF m 17 #[.val (.ref r0), .val (.ref r1)] [(.ref b4), (.ref r0)])) rfl rfl (hb hby d5_17)
  have Fw5 := (((F_r0_actions.ext E2).other W3 (Or.inr (slot_ne (Or.inl (hw _ (List.mem_of_getElem? (i := 37) rfl))) (Or.inl (hw _ (List.mem_of_getElem? (i := 35) rfl))) (by decide) (t := (.array .int)) (t' := (.array .int)) (by decide) (by decide)))).ext E4).same W5
  have N5 := Fr.snoc X5 N3 g_r0
  have Z5 := Nat.le_trans Z4 (Keep.of_wr W5).1
  have K5 := Keep.wr K4 W5 (Or.inl (List.mem_of_getElem? (i := 0) rfl))
  refine Goes.go st5 ?_
  show Goes p e below s _ _ _ (T5.setTop (mkF m 20 #[.val (.ref r0), .val (.ref r1)] []))
  refine Goes.go (fun _ kst => XS.aloadN X5.here hx rfl (hb hby d5_20) rfl rfl  kst) ?_
  show Goes p e below s _ _ _ (T5.setTop (mkF m 21 #[.val (.ref r0), .val (.ref r1)] [(.ref r0)]))
  refine Goes.go (fun _ kst => XS.iconst X5.here hx rfl (hb hby d5_21) kst) ?_
  show Goes p e below s _ _ _ (T5.setTop (mkF m 22 #[.val (.ref r0), .val (.ref r1)] [(.int (1 : Int32)), (.ref r0)]))
  obtain ⟨T6, h6, X6, e6, W6, st6⟩ := putF X5 hx hZ hown (host := "") (Or.inl (hw _ (List.mem_of_getElem? (i := 38) rfl))) Via.refl e5 ((((F_r0_reached.ext E2).other W3 (Or.inr (slot_ne (Or.inl (hw _ (List.mem_of_getElem? (i := 39) rfl))) (Or.inl (hw _ (List.mem_of_getElem? (i := 35) rfl))) (by decide) (t := .int) (t' := (.array .int)) (by decide) (by decide)))).ext E4).other W5 (Or.inr (slot_ne (Or.inl (hw _ (List.mem_of_getElem? (i := 39) rfl))) (Or.inl (hw _ (List.mem_of_getElem? (i := 37) rfl))) (by decide) (t := .int) (t' := (.array .int)) (by decide) (by decide)))) ((((E_r0.ext E2).wr W3).ext E4).wr W5) (Or.inl (hw _ (List.mem_of_getElem? (i := 39) rfl))) (hw _ (List.mem_of_getElem? (i := 1) rfl)) (ty := .int) (by decide) rfl rfl (g := (mkF m 22 #[.val (.ref r0), .val (.ref r1)] [(.int (1 : Int32)), (.ref r0)])) rfl rfl (hb hby d5_22)
  have Fw6 := ((((F_r0_reached.ext E2).other W3 (Or.inr (slot_ne (Or.inl (hw _ (List.mem_of_getElem? (i := 39) rfl))) (Or.inl (hw _ (List.mem_of_getElem? (i := 35) rfl))) (by decide) (t := .int) (t' := (.array .int)) (by decide) (by decide)))).ext E4).other W5 (Or.inr (slot_ne (Or.inl (hw _ (List.mem_of_getElem? (i := 39) rfl))) (Or.inl (hw _ (List.mem_of_getElem? (i := 37) rfl))) (by decide) (t := .int) (t' := (.array .int)) (by decide) (by decide)))).same W6
  have N6 := Fr.snoc X6 N5 g_r0
  have Z6 := Nat.le_trans Z5 (Keep.of_wr W6).1
  have K6 := Keep.wr K5 W6 (Or.inl (List.mem_of_getElem? (i := 0) rfl))
  refine Goes.go st6 ?_
  show Goes p e below s _ _ _ (T6.setTop (mkF m 25 #[.val (.ref r0), .val (.ref r1)] []))
  refine Goes.go (fun _ kst => XS.aloadN X6.here hx rfl (hb hby d5_25) rfl rfl  kst) ?_
  show Goes p e below s _ _ _ (T6.setTop (mkF m 26 #[.val (.ref r0), .val (.ref r1)] [(.ref r0)]))
  refine Goes.go (fun _ kst => XS.iconst X6.here hx rfl (hb hby d5_26) kst) ?_
  show Goes p e below s _ _ _ (T6.setTop (mkF m 27 #[.val (.ref r0), .val (.ref r1)] [(.int (-1 : Int32)), (.ref r0)]))
  obtain ⟨T7, h7, X7, e7, W7, st7⟩ := putF X6 hx hZ hown (host := "") (Or.inl (hw _ (List.mem_of_getElem? (i := 40) rfl))) Via.refl e6 (((((F_r0_firstStuck.ext E2).other W3 (Or.inr (slot_ne (Or.inl (hw _ (List.mem_of_getElem? (i := 41) rfl))) (Or.inl (hw _ (List.mem_of_getElem? (i := 35) rfl))) (by decide) (t := .int) (t' := (.array .int)) (by decide) (by decide)))).ext E4).other W5 (Or.inr (slot_ne (Or.inl (hw _ (List.mem_of_getElem? (i := 41) rfl))) (Or.inl (hw _ (List.mem_of_getElem? (i := 37) rfl))) (by decide) (t := .int) (t' := (.array .int)) (by decide) (by decide)))).other W6 (Or.inr (slot_ne (Or.inl (hw _ (List.mem_of_getElem? (i := 41) rfl))) (Or.inl (hw _ (List.mem_of_getElem? (i := 39) rfl))) (by decide) (t := .int) (t' := .int) (by decide) (by decide)))) (((((E_r0.ext E2).wr W3).ext E4).wr W5).wr W6) (Or.inl (hw _ (List.mem_of_getElem? (i := 41) rfl))) (hw _ (List.mem_of_getElem? (i := 1) rfl)) (ty := .int) (by decide) rfl rfl (g := (mkF m 27 #[.val (.ref r0), .val (.ref r1)] [(.int (-1 : Int32)), (.ref r0)])) rfl rfl (hb hby d5_27)
  have Fw7 := (((((F_r0_firstStuck.ext E2).other W3 (Or.inr (slot_ne (Or.inl (hw _ (List.mem_of_getElem? (i := 41) rfl))) (Or.inl (hw _ (List.mem_of_getElem? (i := 35) rfl))) (by decide) (t := .int) (t' := (.array .int)) (by decide) (by decide)))).ext E4).other W5 (Or.inr (slot_ne (Or.inl (hw _ (List.mem_of_getElem? (i := 41) rfl))) (Or.inl (hw _ (List.mem_of_getElem? (i := 37) rfl))) (by decide) (t := .int) (t' := (.array .int)) (by decide) (by decide)))).other W6 (Or.inr (slot_ne (Or.inl (hw _ (List.mem_of_getElem? (i := 41) rfl))) (Or.inl (hw _ (List.mem_of_getElem? (i := 39) rfl))) (by decide) (t := .int) (t' := .int) (by decide) (by decide)))).same W7
  have N7 := Fr.snoc X7 N6 g_r0
  have Z7 := Nat.le_trans Z6 (Keep.of_wr W7).1
  have K7 := Keep.wr K6 W7 (Or.inl (List.mem_of_getElem? (i := 0) rfl))
  refine Goes.go st7 ?_
  show Goes p e below s _ _ _ (T7.setTop (mkF m 30 #[.val (.ref r0), .val (.ref r1)] []))
  refine Goes.go (fun _ kst => XS.aloadN X7.here hx rfl (hb hby d5_30) rfl rfl  kst) ?_
  show Goes p e below s _ _ _ (T7.setTop (mkF m 31 #[.val (.ref r0), .val (.ref r1)] [(.ref r0)]))
  refine Goes.go (fun _ kst => XS.iconst X7.here hx rfl (hb hby d5_31) kst) ?_
  show Goes p e below s _ _ _ (T7.setTop (mkF m 32 #[.val (.ref r0), .val (.ref r1)] [(.int (-1 : Int32)), (.ref r0)]))
  obtain ⟨T8, h8, X8, e8, W8, st8⟩ := putF X7 hx hZ hown (host := "") (Or.inl (hw _ (List.mem_of_getElem? (i := 42) rfl))) Via.refl e7 ((((((F_r0_secondStuck.ext E2).other W3 (Or.inr (slot_ne (Or.inl (hw _ (List.mem_of_getElem? (i := 43) rfl))) (Or.inl (hw _ (List.mem_of_getElem? (i := 35) rfl))) (by decide) (t := .int) (t' := (.array .int)) (by decide) (by decide)))).ext E4).other W5 (Or.inr (slot_ne (Or.inl (hw _ (List.mem_of_getElem? (i := 43) rfl))) (Or.inl (hw _ (List.mem_of_getElem? (i := 37) rfl))) (by decide) (t := .int) (t' := (.array .int)) (by decide) (by decide)))).other W6 (Or.inr (slot_ne (Or.inl (hw _ (List.mem_of_getElem? (i := 43) rfl))) (Or.inl (hw _ (List.mem_of_getElem? (i := 39) rfl))) (by decide) (t := .int) (t' := .int) (by decide) (by decide)))).other W7 (Or.inr (slot_ne (Or.inl (hw _ (List.mem_of_getElem? (i := 43) rfl))) (Or.inl (hw _ (List.mem_of_getElem? (i := 41) rfl))) (by decide) (t := .int) (t' := .int) (by decide) (by decide)))) ((((((E_r0.ext E2).wr W3).ext E4).wr W5).wr W6).wr W7) (Or.inl (hw _ (List.mem_of_getElem? (i := 43) rfl))) (hw _ (List.mem_of_getElem? (i := 1) rfl)) (ty := .int) (by decide) rfl rfl (g := (mkF m 32 #[.val (.ref r0), .val (.ref r1)] [(.int (-1 : Int32)), (.ref r0)])) rfl rfl (hb hby d5_32)
  have Fw8 := ((((((F_r0_secondStuck.ext E2).other W3 (Or.inr (slot_ne (Or.inl (hw _ (List.mem_of_getElem? (i := 43) rfl))) (Or.inl (hw _ (List.mem_of_getElem? (i := 35) rfl))) (by decide) (t := .int) (t' := (.array .int)) (by decide) (by decide)))).ext E4).other W5 (Or.inr (slot_ne (Or.inl (hw _ (List.mem_of_getElem? (i := 43) rfl))) (Or.inl (hw _ (List.mem_of_getElem? (i := 37) rfl))) (by decide) (t := .int) (t' := (.array .int)) (by decide) (by decide)))).other W6 (Or.inr (slot_ne (Or.inl (hw _ (List.mem_of_getElem? (i := 43) rfl))) (Or.inl (hw _ (List.mem_of_getElem? (i := 39) rfl))) (by decide) (t := .int) (t' := .int) (by decide) (by decide)))).other W7 (Or.inr (slot_ne (Or.inl (hw _ (List.mem_of_getElem? (i := 43) rfl))) (Or.inl (hw _ (List.mem_of_getElem? (i := 41) rfl))) (by decide) (t := .int) (t' := .int) (by decide) (by decide)))).same W8
  have N8 := Fr.snoc X8 N7 g_r0
  have Z8 := Nat.le_trans Z7 (Keep.of_wr W8).1
  have K8 := Keep.wr K7 W8 (Or.inl (List.mem_of_getElem? (i := 0) rfl))
  refine Goes.go st8 ?_
  show Goes p e below s _ _ _ (T8.setTop (mkF m 35 #[.val (.ref r0), .val (.ref r1)] []))
  refine Goes.go (fun _ kst => XS.aloadN X8.here hx rfl (hb hby d5_35) rfl rfl  kst) ?_
  show Goes p e below s _ _ _ (T8.setTop (mkF m 36 #[.val (.ref r0), .val (.ref r1)] [(.ref r0)]))
  refine Goes.go (fun _ kst => XS.aloadN X8.here hx rfl (hb hby d5_36) rfl rfl  kst) ?_
  show Goes p e below s _ _ _ (T8.setTop (mkF m 37 #[.val (.ref r0), .val (.ref r1)] [(.ref r1), (.ref r0)]))
  obtain ⟨T9, h9, X9, e9, W9, st9⟩ := putF X8 hx hZ hown (host := "") (Or.inl (hw _ (List.mem_of_getElem? (i := 44) rfl))) Via.refl e8 (((((((F_r0_alphabet.ext E2).other W3 (Or.inr (slot_ne (Or.inr (hw _ (List.mem_of_getElem? (i := 45) rfl))) (Or.inl (hw _ (List.mem_of_getElem? (i := 35) rfl))) (by decide) (t := (.object "java/util/List")) (t' := (.array .int)) (by decide) (by decide)))).ext E4).other W5 (Or.inr (slot_ne (Or.inr (hw _ (List.mem_of_getElem? (i := 45) rfl))) (Or.inl (hw _ (List.mem_of_getElem? (i := 37) rfl))) (by decide) (t := (.object "java/util/List")) (t' := (.array .int)) (by decide) (by decide)))).other W6 (Or.inr (slot_ne (Or.inr (hw _ (List.mem_of_getElem? (i := 45) rfl))) (Or.inl (hw _ (List.mem_of_getElem? (i := 39) rfl))) (by decide) (t := (.object "java/util/List")) (t' := .int) (by decide) (by decide)))).other W7 (Or.inr (slot_ne (Or.inr (hw _ (List.mem_of_getElem? (i := 45) rfl))) (Or.inl (hw _ (List.mem_of_getElem? (i := 41) rfl))) (by decide) (t := (.object "java/util/List")) (t' := .int) (by decide) (by decide)))).other W8 (Or.inr (slot_ne (Or.inr (hw _ (List.mem_of_getElem? (i := 45) rfl))) (Or.inl (hw _ (List.mem_of_getElem? (i := 43) rfl))) (by decide) (t := (.object "java/util/List")) (t' := .int) (by decide) (by decide)))) (((((((E_r0.ext E2).wr W3).ext E4).wr W5).wr W6).wr W7).wr W8) (Or.inr ⟨(hw _ (List.mem_of_getElem? (i := 45) rfl)), rfl, hnm⟩) (hw _ (List.mem_of_getElem? (i := 1) rfl)) (ty := (.object "java/util/List")) (by decide) rfl rfl (g := (mkF m 37 #[.val (.ref r0), .val (.ref r1)] [(.ref r1), (.ref r0)])) rfl rfl (hb hby d5_37)
  have Fw9 := (((((((F_r0_alphabet.ext E2).other W3 (Or.inr (slot_ne (Or.inr (hw _ (List.mem_of_getElem? (i := 45) rfl))) (Or.inl (hw _ (List.mem_of_getElem? (i := 35) rfl))) (by decide) (t := (.object "java/util/List")) (t' := (.array .int)) (by decide) (by decide)))).ext E4).other W5 (Or.inr (slot_ne (Or.inr (hw _ (List.mem_of_getElem? (i := 45) rfl))) (Or.inl (hw _ (List.mem_of_getElem? (i := 37) rfl))) (by decide) (t := (.object "java/util/List")) (t' := (.array .int)) (by decide) (by decide)))).other W6 (Or.inr (slot_ne (Or.inr (hw _ (List.mem_of_getElem? (i := 45) rfl))) (Or.inl (hw _ (List.mem_of_getElem? (i := 39) rfl))) (by decide) (t := (.object "java/util/List")) (t' := .int) (by decide) (by decide)))).other W7 (Or.inr (slot_ne (Or.inr (hw _ (List.mem_of_getElem? (i := 45) rfl))) (Or.inl (hw _ (List.mem_of_getElem? (i := 41) rfl))) (by decide) (t := (.object "java/util/List")) (t' := .int) (by decide) (by decide)))).other W8 (Or.inr (slot_ne (Or.inr (hw _ (List.mem_of_getElem? (i := 45) rfl))) (Or.inl (hw _ (List.mem_of_getElem? (i := 43) rfl))) (by decide) (t := (.object "java/util/List")) (t' := .int) (by decide) (by decide)))).same W9
  have N9 := Fr.snoc X9 N8 g_r0
  have Z9 := Nat.le_trans Z8 (Keep.of_wr W9).1
  have K9 := Keep.wr K8 W9 (Or.inl (List.mem_of_getElem? (i := 0) rfl))
  refine Goes.go st9 ?_
  show Goes p e below s _ _ _ (T9.setTop (mkF m 40 #[.val (.ref r0), .val (.ref r1)] []))
  refine Goes.ret0 X9 hx hlk Bd.returns (hb hby d5_40) ?_ (by decide) (by decide)
  exact (show Q_rm5 Z r0 r1 h0 n0 _ T9.heap _ by rw [e9]; exact ⟨rfl, N9, K9, ((((((((E_r0.ext E2).wr W3).ext E4).wr W5).wr W6).wr W7).wr W8).wr W9), (((Fw6.other W7 (Or.inr (slot_ne (Or.inl (hw _ (List.mem_of_getElem? (i := 39) rfl))) (Or.inl (hw _ (List.mem_of_getElem? (i := 41) rfl))) (by decide) (t := .int) (t' := .int) (by decide) (by decide)))).other W8 (Or.inr (slot_ne (Or.inl (hw _ (List.mem_of_getElem? (i := 39) rfl))) (Or.inl (hw _ (List.mem_of_getElem? (i := 43) rfl))) (by decide) (t := .int) (t' := .int) (by decide) (by decide)))).other W9 (Or.inr (slot_ne (Or.inl (hw _ (List.mem_of_getElem? (i := 39) rfl))) (Or.inr (hw _ (List.mem_of_getElem? (i := 45) rfl))) (by decide) (t := .int) (t' := (.object "java/util/List")) (by decide) (by decide)))), ((((((((F_r0_state.ext E2).other W3 (Or.inr (slot_ne (Or.inl (hw _ (List.mem_of_getElem? (i := 60) rfl))) (Or.inl (hw _ (List.mem_of_getElem? (i := 35) rfl))) (by decide) (t := .int) (t' := (.array .int)) (by decide) (by decide)))).ext E4).other W5 (Or.inr (slot_ne (Or.inl (hw _ (List.mem_of_getElem? (i := 60) rfl))) (Or.inl (hw _ (List.mem_of_getElem? (i := 37) rfl))) (by decide) (t := .int) (t' := (.array .int)) (by decide) (by decide)))).other W6 (Or.inr (slot_ne (Or.inl (hw _ (List.mem_of_getElem? (i := 60) rfl))) (Or.inl (hw _ (List.mem_of_getElem? (i := 39) rfl))) (by decide) (t := .int) (t' := .int) (by decide) (by decide)))).other W7 (Or.inr (slot_ne (Or.inl (hw _ (List.mem_of_getElem? (i := 60) rfl))) (Or.inl (hw _ (List.mem_of_getElem? (i := 41) rfl))) (by decide) (t := .int) (t' := .int) (by decide) (by decide)))).other W8 (Or.inr (slot_ne (Or.inl (hw _ (List.mem_of_getElem? (i := 60) rfl))) (Or.inl (hw _ (List.mem_of_getElem? (i := 43) rfl))) (by decide) (t := .int) (t' := .int) (by decide) (by decide)))).other W9 (Or.inr (slot_ne (Or.inl (hw _ (List.mem_of_getElem? (i := 60) rfl))) (Or.inr (hw _ (List.mem_of_getElem? (i := 45) rfl))) (by decide) (t := .int) (t' := (.object "java/util/List")) (by decide) (by decide)))), ((((((((F_r0_outgoing.ext E2).other W3 (Or.inr (slot_ne (Or.inl (hw _ (List.mem_of_getElem? (i := 56) rfl))) (Or.inl (hw _ (List.mem_of_getElem? (i := 35) rfl))) (by decide) (t := .int) (t' := (.array .int)) (by decide) (by decide)))).ext E4).other W5 (Or.inr (slot_ne (Or.inl (hw _ (List.mem_of_getElem? (i := 56) rfl))) (Or.inl (hw _ (List.mem_of_getElem? (i := 37) rfl))) (by decide) (t := .int) (t' := (.array .int)) (by decide) (by decide)))).other W6 (Or.inr (slot_ne (Or.inl (hw _ (List.mem_of_getElem? (i := 56) rfl))) (Or.inl (hw _ (List.mem_of_getElem? (i := 39) rfl))) (by decide) (t := .int) (t' := .int) (by decide) (by decide)))).other W7 (Or.inr (slot_ne (Or.inl (hw _ (List.mem_of_getElem? (i := 56) rfl))) (Or.inl (hw _ (List.mem_of_getElem? (i := 41) rfl))) (by decide) (t := .int) (t' := .int) (by decide) (by decide)))).other W8 (Or.inr (slot_ne (Or.inl (hw _ (List.mem_of_getElem? (i := 56) rfl))) (Or.inl (hw _ (List.mem_of_getElem? (i := 43) rfl))) (by decide) (t := .int) (t' := .int) (by decide) (by decide)))).other W9 (Or.inr (slot_ne (Or.inl (hw _ (List.mem_of_getElem? (i := 56) rfl))) (Or.inr (hw _ (List.mem_of_getElem? (i := 45) rfl))) (by decide) (t := .int) (t' := (.object "java/util/List")) (by decide) (by decide)))), ((((((((F_r0_terminated.ext E2).other W3 (Or.inr (slot_ne (Or.inl (hw _ (List.mem_of_getElem? (i := 58) rfl))) (Or.inl (hw _ (List.mem_of_getElem? (i := 35) rfl))) (by decide) (t := .boolean) (t' := (.array .int)) (by decide) (by decide)))).ext E4).other W5 (Or.inr (slot_ne (Or.inl (hw _ (List.mem_of_getElem? (i := 58) rfl))) (Or.inl (hw _ (List.mem_of_getElem? (i := 37) rfl))) (by decide) (t := .boolean) (t' := (.array .int)) (by decide) (by decide)))).other W6 (Or.inr (slot_ne (Or.inl (hw _ (List.mem_of_getElem? (i := 58) rfl))) (Or.inl (hw _ (List.mem_of_getElem? (i := 39) rfl))) (by decide) (t := .boolean) (t' := .int) (by decide) (by decide)))).other W7 (Or.inr (slot_ne (Or.inl (hw _ (List.mem_of_getElem? (i := 58) rfl))) (Or.inl (hw _ (List.mem_of_getElem? (i := 41) rfl))) (by decide) (t := .boolean) (t' := .int) (by decide) (by decide)))).other W8 (Or.inr (slot_ne (Or.inl (hw _ (List.mem_of_getElem? (i := 58) rfl))) (Or.inl (hw _ (List.mem_of_getElem? (i := 43) rfl))) (by decide) (t := .boolean) (t' := .int) (by decide) (by decide)))).other W9 (Or.inr (slot_ne (Or.inl (hw _ (List.mem_of_getElem? (i := 58) rfl))) (Or.inr (hw _ (List.mem_of_getElem? (i := 45) rfl))) (by decide) (t := .boolean) (t' := (.object "java/util/List")) (by decide) (by decide)))), ((((((((F_r0_transitions.ext E2).other W3 (Or.inr (slot_ne (Or.inl (hw _ (List.mem_of_getElem? (i := 77) rfl))) (Or.inl (hw _ (List.mem_of_getElem? (i := 35) rfl))) (by decide) (t := .long) (t' := (.array .int)) (by decide) (by decide)))).ext E4).other W5 (Or.inr (slot_ne (Or.inl (hw _ (List.mem_of_getElem? (i := 77) rfl))) (Or.inl (hw _ (List.mem_of_getElem? (i := 37) rfl))) (by decide) (t := .long) (t' := (.array .int)) (by decide) (by decide)))).other W6 (Or.inr (slot_ne (Or.inl (hw _ (List.mem_of_getElem? (i := 77) rfl))) (Or.inl (hw _ (List.mem_of_getElem? (i := 39) rfl))) (by decide) (t := .long) (t' := .int) (by decide) (by decide)))).other W7 (Or.inr (slot_ne (Or.inl (hw _ (List.mem_of_getElem? (i := 77) rfl))) (Or.inl (hw _ (List.mem_of_getElem? (i := 41) rfl))) (by decide) (t := .long) (t' := .int) (by decide) (by decide)))).other W8 (Or.inr (slot_ne (Or.inl (hw _ (List.mem_of_getElem? (i := 77) rfl))) (Or.inl (hw _ (List.mem_of_getElem? (i := 43) rfl))) (by decide) (t := .long) (t' := .int) (by decide) (by decide)))).other W9 (Or.inr (slot_ne (Or.inl (hw _ (List.mem_of_getElem? (i := 77) rfl))) (Or.inr (hw _ (List.mem_of_getElem? (i := 45) rfl))) (by decide) (t := .long) (t' := (.object "java/util/List")) (by decide) (by decide)))), ((Fw7.other W8 (Or.inr (slot_ne (Or.inl (hw _ (List.mem_of_getElem? (i := 41) rfl))) (Or.inl (hw _ (List.mem_of_getElem? (i := 43) rfl))) (by decide) (t := .int) (t' := .int) (by decide) (by decide)))).other W9 (Or.inr (slot_ne (Or.inl (hw _ (List.mem_of_getElem? (i := 41) rfl))) (Or.inr (hw _ (List.mem_of_getElem? (i := 45) rfl))) (by decide) (t := .int) (t' := (.object "java/util/List")) (by decide) (by decide)))), (Fw8.other W9 (Or.inr (slot_ne (Or.inl (hw _ (List.mem_of_getElem? (i := 43) rfl))) (Or.inr (hw _ (List.mem_of_getElem? (i := 45) rfl))) (by decide) (t := .int) (t' := (.object "java/util/List")) (by decide) (by decide))))⟩)
theorem d7_0 : decode prog_182_method_5_code 0 = .ok (.aload_n 0, 1) := by decide +kernel
theorem d7_1 : decode prog_182_method_5_code 1 = .ok (.getfield 66, 3) := by decide +kernel
theorem d7_4 : decode prog_182_method_5_code 4 = .ok (.ifCond .ne 43, 3) := by decide +kernel
theorem d7_7 : decode prog_182_method_5_code 7 = .ok (.aload_n 0, 1) := by decide +kernel
theorem d7_8 : decode prog_182_method_5_code 8 = .ok (.getfield 73, 3) := by decide +kernel
theorem d7_11 : decode prog_182_method_5_code 11 = .ok (.ifCond .ne 36, 3) := by decide +kernel
theorem d7_14 : decode prog_182_method_5_code 14 = .ok (.aload_n 0, 1) := by decide +kernel
theorem d7_15 : decode prog_182_method_5_code 15 = .ok (.getfield 20, 3) := by decide +kernel
theorem d7_18 : decode prog_182_method_5_code 18 = .ok (.ifCond .ge 14, 3) := by decide +kernel
theorem d7_21 : decode prog_182_method_5_code 21 = .ok (.aload_n 0, 1) := by decide +kernel
theorem d7_22 : decode prog_182_method_5_code 22 = .ok (.aload_n 0, 1) := by decide +kernel
theorem d7_23 : decode prog_182_method_5_code 23 = .ok (.getfield 63, 3) := by decide +kernel
theorem d7_26 : decode prog_182_method_5_code 26 = .ok (.putfield 20, 3) := by decide +kernel
theorem d7_29 : decode prog_182_method_5_code 29 = .ok (.goto 18, 3) := by decide +kernel
theorem d7_32 : decode prog_182_method_5_code 32 = .ok (.aload_n 0, 1) := by decide +kernel
theorem d7_33 : decode prog_182_method_5_code 33 = .ok (.getfield 23, 3) := by decide +kernel
theorem d7_36 : decode prog_182_method_5_code 36 = .ok (.ifCond .ge 11, 3) := by decide +kernel
theorem d7_39 : decode prog_182_method_5_code 39 = .ok (.aload_n 0, 1) := by decide +kernel
theorem d7_40 : decode prog_182_method_5_code 40 = .ok (.aload_n 0, 1) := by decide +kernel
theorem d7_41 : decode prog_182_method_5_code 41 = .ok (.getfield 63, 3) := by decide +kernel
theorem d7_44 : decode prog_182_method_5_code 44 = .ok (.putfield 23, 3) := by decide +kernel
theorem d7_47 : decode prog_182_method_5_code 47 = .ok (.aload_n 0, 1) := by decide +kernel
theorem d7_48 : decode prog_182_method_5_code 48 = .ok (.iconst 0, 1) := by decide +kernel
theorem d7_49 : decode prog_182_method_5_code 49 = .ok (.putfield 66, 3) := by decide +kernel
theorem d7_52 : decode prog_182_method_5_code 52 = .ok (.aload_n 0, 1) := by decide +kernel
theorem d7_53 : decode prog_182_method_5_code 53 = .ok (.iconst 0, 1) := by decide +kernel
theorem d7_54 : decode prog_182_method_5_code 54 = .ok (.putfield 73, 3) := by decide +kernel
theorem d7_57 : decode prog_182_method_5_code 57 = .ok (.aload_n 0, 1) := by decide +kernel
theorem d7_58 : decode prog_182_method_5_code 58 = .ok (.dup, 1) := by decide +kernel
theorem d7_59 : decode prog_182_method_5_code 59 = .ok (.getfield 63, 3) := by decide +kernel
theorem d7_62 : decode prog_182_method_5_code 62 = .ok (.iconst 1, 1) := by decide +kernel
theorem d7_63 : decode prog_182_method_5_code 63 = .ok (.iadd, 1) := by decide +kernel
theorem d7_64 : decode prog_182_method_5_code 64 = .ok (.putfield 63, 3) := by decide +kernel
theorem d7_67 : decode prog_182_method_5_code 67 = .ok (.return_, 1) := by decide +kernel
theorem pn_7 : plainName "com/example/surety/surety/Search" = true := by first | (simp [plainName, overriddenIn]; done) | decide +kernel
theorem ef_rm7 (m : MethodId) (x0 : Addr) : entryFrame m #[(.ref x0)] 1 = mkF m 0 #[.val (.ref x0)] [] := by first | (simp [entryFrame, mkF, argsToLocals, Value.category]; done) | rfl
def g_rm7_6 (r0 : Addr) (w_r0_reached : Int32) (w_r0_state : Int32) (w_r0_outgoing : Int32) (w_r0_terminated : Int32) (w_r0_transitions : Int64) (w_r0_firstStuck : Int32) (w_r0_secondStuck : Int32) : Int32 := (if w_r0_outgoing = (0 : Int32) then (if w_r0_terminated = (0 : Int32) then (if w_r0_firstStuck < (0 : Int32) then w_r0_state else w_r0_firstStuck) else w_r0_firstStuck) else w_r0_firstStuck)
def g_rm7_7 (r0 : Addr) (w_r0_reached : Int32) (w_r0_state : Int32) (w_r0_outgoing : Int32) (w_r0_terminated : Int32) (w_r0_transitions : Int64) (w_r0_firstStuck : Int32) (w_r0_secondStuck : Int32) : Int32 := (if w_r0_outgoing = (0 : Int32) then (if w_r0_terminated = (0 : Int32) then (if w_r0_firstStuck < (0 : Int32) then w_r0_secondStuck else (if w_r0_secondStuck < (0 : Int32) then w_r0_state else w_r0_secondStuck)) else w_r0_secondStuck) else w_r0_secondStuck)
def Q_rm7 (Z : State) (r0 : Addr) (w_r0_reached : Int32) (w_r0_state : Int32) (w_r0_outgoing : Int32) (w_r0_terminated : Int32) (w_r0_transitions : Int64) (w_r0_firstStuck : Int32) (w_r0_secondStuck : Int32) (h0 : Heap) (n0 : Nat) (v : Option Value) (h : Heap) (L : List Loc) : Prop := v = none ∧ Fr n0 L ∧ Keep h0 h [r0] ∧ Exa Z h r0 "com/example/surety/surety/Search" ∧ Fld Z h r0 "com/example/surety/surety/Search" "reached" "I" (.int w_r0_reached) ∧ Fld Z h r0 "com/example/surety/surety/Search" "state" "I" (.int (w_r0_state + (1 : Int32))) ∧ Fld Z h r0 "com/example/surety/surety/Search" "outgoing" "I" (.int (0 : Int32)) ∧ Fld Z h r0 "com/example/surety/surety/Search" "terminated" "Z" (.int (nar .boolean (0 : Int32))) ∧ Fld Z h r0 "com/example/surety/surety/Search" "transitions" "J" (.long w_r0_transitions) ∧ Fld Z h r0 "com/example/surety/surety/Search" "firstStuck" "I" (.int (g_rm7_6 r0 w_r0_reached w_r0_state w_r0_outgoing w_r0_terminated w_r0_transitions w_r0_firstStuck w_r0_secondStuck)) ∧ Fld Z h r0 "com/example/surety/surety/Search" "secondStuck" "I" (.int (g_rm7_7 r0 w_r0_reached w_r0_state w_r0_outgoing w_r0_terminated w_r0_transitions w_r0_firstStuck w_r0_secondStuck))
set_option maxRecDepth 65536 in
set_option maxHeartbeats 40000000 in
theorem rm7 (l : Launch) (Z : State) (a0 : Array Value) (hw : ∀ d ∈ tables_1, d.before a0 Z = true) (ws : List Jvm.Cond) (r0 : Addr) (w_r0_reached : Int32) (w_r0_state : Int32) (w_r0_outgoing : Int32) (w_r0_terminated : Int32) (w_r0_transitions : Int64) (w_r0_firstStuck : Int32) (w_r0_secondStuck : Int32) (h0 : Heap) (n0 : Nat) (Z0 : n0 ≤ h0.size) (E_r0 : Exa Z h0 r0 "com/example/surety/surety/Search") (g_r0 : n0 ≤ r0) (F_r0_reached : Fld Z h0 r0 "com/example/surety/surety/Search" "reached" "I" (.int w_r0_reached)) (F_r0_state : Fld Z h0 r0 "com/example/surety/surety/Search" "state" "I" (.int w_r0_state)) (F_r0_outgoing : Fld Z h0 r0 "com/example/surety/surety/Search" "outgoing" "I" (.int w_r0_outgoing)) (F_r0_terminated : Fld Z h0 r0 "com/example/surety/surety/Search" "terminated" "Z" (.int w_r0_terminated)) (F_r0_transitions : Fld Z h0 r0 "com/example/surety/surety/Search" "transitions" "J" (.long w_r0_transitions)) (F_r0_firstStuck : Fld Z h0 r0 "com/example/surety/surety/Search" "firstStuck" "I" (.int w_r0_firstStuck)) (F_r0_secondStuck : Fld Z h0 r0 "com/example/surety/surety/Search" "secondStuck" "I" (.int w_r0_secondStuck)) :
    MetFree l (⟨"com/example/surety/surety/Search", "endState", "()V"⟩ : MethodName) (head1 (Jvm.Cond.code (⟨"com/example/surety/surety/Search", "endState", "()V"⟩ : MethodName) prog_182_method_5_code 1 none :: ws) ({ frames := 0, cells := 0, slots := 0, locals := 0 } : Room)) (fun a U => a = #[(.ref r0)] ∧ Z.Warmed39 U.vm ∧ U.heap = h0) (fun _ _ _ _ _ => True) (fun _ U o U' => ∃ v L, o = .returned v ∧ Q_rm7 Z r0 w_r0_reached w_r0_state w_r0_outgoing w_r0_terminated w_r0_transitions w_r0_firstStuck w_r0_secondStuck h0 n0 v U'.heap L ∧ FrameEnd U o U' L ({ frames := 0, cells := 0, slots := 0, locals := 0 } : Room).cells ({ frames := 0, cells := 0, slots := 0, locals := 0 } : Room).slots) := by
  refine MetFree.of_bodySF (plainFor_of_name pn_7) hisR ?_
  intro p e s m args below meth c s₁ Bd hml0 hP hK
  obtain ⟨rfl, hZ, hh⟩ := hP
  have hx := Bd.exec
  have hby := Bd.bytes
  have hml : c.maxLocals = 1 := hml0
  have hown : s.vm.findClass "com/example/surety/surety/Search" = some m.cls := findClass_of_methodNamed Bd.named
  have hnm := (name_of_methodNamed Bd.named Bd.method).1
  have hlk : meth.locks = false := BodyLoose.notSynchronized Bd
  have X0 : Stand p l e ({ frames := 0, cells := 0, slots := 0, locals := 0 } : Room) s m #[(.ref r0)] below meth c s₁ [] 0 0 := Stand.of_body Bd
  have e0 : s₁.heap = h0 := by rw [← hh, Bd.state]; rfl
  have N0 := Fr.nil n0
  have K0 : Keep h0 h0 [r0] := Keep.refl _ _
  show Goes p e below s (Q_rm7 Z r0 w_r0_reached w_r0_state w_r0_outgoing w_r0_terminated w_r0_transitions w_r0_firstStuck w_r0_secondStuck h0 n0) ({ frames := 0, cells := 0, slots := 0, locals := 0 } : Room).cells ({ frames := 0, cells := 0, slots := 0, locals := 0 } : Room).slots (s₁.setTop (entryFrame m #[(.ref r0)] 1))
  rw [ef_rm7]
  show Goes p e below s _ _ _ (s₁.setTop (mkF m 0 #[.val (.ref r0)] []))
  refine Goes.go (fun _ kst => XS.aloadN X0.here hx rfl (hb hby d7_0) rfl rfl  kst) ?_
  show Goes p e below s _ _ _ (s₁.setTop (mkF m 1 #[.val (.ref r0)] [(.ref r0)]))
  obtain ⟨T1, X1, e1, st1⟩ := getF X0 hx hZ hown (host := "") (Or.inl (hw _ (List.mem_of_getElem? (i := 55) rfl))) Via.refl e0 F_r0_outgoing (g := (mkF m 1 #[.val (.ref r0)] [(.ref r0)])) rfl rfl (hb hby d7_1)
  refine Goes.go st1 ?_
  show Goes p e below s _ _ _ (T1.setTop (mkF m 4 #[.val (.ref r0)] [(.int w_r0_outgoing)]))
  by_cases hc4_2 : w_r0_outgoing = (0 : Int32)
  · skip
    refine Goes.go (fun _ kst => XS.ifNo X1.here hx rfl (hb hby d7_4) rfl ((if0 _ _).trans (teq hc4_2).2) kst) ?_
    show Goes p e below s _ _ _ (T1.setTop (mkF m 7 #[.val (.ref r0)] []))
    refine Goes.go (fun _ kst => XS.aloadN X1.here hx rfl (hb hby d7_7) rfl rfl  kst) ?_
    show Goes p e below s _ _ _ (T1.setTop (mkF m 8 #[.val (.ref r0)] [(.ref r0)]))
    obtain ⟨T3, X3, e3, st3⟩ := getF X1 hx hZ hown (host := "") (Or.inl (hw _ (List.mem_of_getElem? (i := 57) rfl))) Via.refl e1 F_r0_terminated (g := (mkF m 8 #[.val (.ref r0)] [(.ref r0)])) rfl rfl (hb hby d7_8)
    refine Goes.go st3 ?_
    show Goes p e below s _ _ _ (T3.setTop (mkF m 11 #[.val (.ref r0)] [(.int w_r0_terminated)]))
    by_cases hc11_4 : w_r0_terminated = (0 : Int32)
    · skip
      refine Goes.go (fun _ kst => XS.ifNo X3.here hx rfl (hb hby d7_11) rfl ((if0 _ _).trans (teq hc11_4).2) kst) ?_
      show Goes p e below s _ _ _ (T3.setTop (mkF m 14 #[.val (.ref r0)] []))
      refine Goes.go (fun _ kst => XS.aloadN X3.here hx rfl (hb hby d7_14) rfl rfl  kst) ?_
      show Goes p e below s _ _ _ (T3.setTop (mkF m 15 #[.val (.ref r0)] [(.ref r0)]))
      obtain ⟨T5, X5, e5, st5⟩ := getF X3 hx hZ hown (host := "") (Or.inl (hw _ (List.mem_of_getElem? (i := 40) rfl))) Via.refl e3 F_r0_firstStuck (g := (mkF m 15 #[.val (.ref r0)] [(.ref r0)])) rfl rfl (hb hby d7_15)
      refine Goes.go st5 ?_
      show Goes p e below s _ _ _ (T5.setTop (mkF m 18 #[.val (.ref r0)] [(.int w_r0_firstStuck)]))
      by_cases hc18_6 : w_r0_firstStuck < (0 : Int32)
      · skip
        refine Goes.go (fun _ kst => XS.ifNo X5.here hx rfl (hb hby d7_18) rfl ((if0 _ _).trans (tlt hc18_6).2.1) kst) ?_
        show Goes p e below s _ _ _ (T5.setTop (mkF m 21 #[.val (.ref r0)] []))
        refine Goes.go (fun _ kst => XS.aloadN X5.here hx rfl (hb hby d7_21) rfl rfl  kst) ?_
        show Goes p e below s _ _ _ (T5.setTop (mkF m 22 #[.val (.ref r0)] [(.ref r0)]))
        refine Goes.go (fun _ kst => XS.aloadN X5.here hx rfl (hb hby d7_22) rfl rfl  kst) ?_
        show Goes p e below s _ _ _ (T5.setTop (mkF m 23 #[.val (.ref r0)] [(.ref r0), (.ref r0)]))
        obtain ⟨T7, X7, e7, st7⟩ := getF X5 hx hZ hown (host := "") (Or.inl (hw _ (List.mem_of_getElem? (i := 59) rfl))) Via.refl e5 F_r0_state (g := (mkF m 23 #[.val (.ref r0)] [(.ref r0), (.ref r0)])) rfl rfl (hb hby d7_23)
        refine Goes.go st7 ?_
        show Goes p e below s _ _ _ (T7.setTop (mkF m 26 #[.val (.ref r0)] [(.int w_r0_state), (.ref r0)]))
        obtain ⟨T8, h8, X8, e8, W8, st8⟩ := putF X7 hx hZ hown (host := "") (Or.inl (hw _ (List.mem_of_getElem? (i := 40) rfl))) Via.refl e7 F_r0_firstStuck E_r0 (Or.inl (hw _ (List.mem_of_getElem? (i := 41) rfl))) (hw _ (List.mem_of_getElem? (i := 1) rfl)) (ty := .int) (by decide) rfl rfl (g := (mkF m 26 #[.val (.ref r0)] [(.int w_r0_state), (.ref r0)])) rfl rfl (hb hby d7_26)
        have Fw8 := F_r0_firstStuck.same W8
        have N8 := Fr.snoc X8 N0 g_r0
        have Z8 := Nat.le_trans Z0 (Keep.of_wr W8).1
        have K8 := Keep.wr K0 W8 (Or.inl (List.mem_of_getElem? (i := 0) rfl))
        refine Goes.go st8 ?_
        show Goes p e below s _ _ _ (T8.setTop (mkF m 29 #[.val (.ref r0)] []))
        refine Goes.go (fun _ kst => XS.goto X8.here hx rfl (pc0 := 29) (pc' := 47) rfl (hb hby d7_29) (by decide) (by decide) kst) ?_
        show Goes p e below s _ _ _ (T8.setTop (mkF m 47 #[.val (.ref r0)] []))
        refine Goes.go (fun _ kst => XS.aloadN X8.here hx rfl (hb hby d7_47) rfl rfl  kst) ?_
        show Goes p e below s _ _ _ (T8.setTop (mkF m 48 #[.val (.ref r0)] [(.ref r0)]))
        refine Goes.go (fun _ kst => XS.iconst X8.here hx rfl (hb hby d7_48) kst) ?_
        show Goes p e below s _ _ _ (T8.setTop (mkF m 49 #[.val (.ref r0)] [(.int (0 : Int32)), (.ref r0)]))
        obtain ⟨T9, h9, X9, e9, W9, st9⟩ := putF X8 hx hZ hown (host := "") (Or.inl (hw _ (List.mem_of_getElem? (i := 55) rfl))) Via.refl e8 (F_r0_outgoing.other W8 (Or.inr (slot_ne (Or.inl (hw _ (List.mem_of_getElem? (i := 56) rfl))) (Or.inl (hw _ (List.mem_of_getElem? (i := 41) rfl))) (by decide) (t := .int) (t' := .int) (by decide) (by decide)))) (E_r0.wr W8) (Or.inl (hw _ (List.mem_of_getElem? (i := 56) rfl))) (hw _ (List.mem_of_getElem? (i := 1) rfl)) (ty := .int) (by decide) rfl rfl (g := (mkF m 49 #[.val (.ref r0)] [(.int (0 : Int32)), (.ref r0)])) rfl rfl (hb hby d7_49)
        have Fw9 := (F_r0_outgoing.other W8 (Or.inr (slot_ne (Or.inl (hw _ (List.mem_of_getElem? (i := 56) rfl))) (Or.inl (hw _ (List.mem_of_getElem? (i := 41) rfl))) (by decide) (t := .int) (t' := .int) (by decide) (by decide)))).same W9
        have N9 := Fr.snoc X9 N8 g_r0
        have Z9 := Nat.le_trans Z8 (Keep.of_wr W9).1
        have K9 := Keep.wr K8 W9 (Or.inl (List.mem_of_getElem? (i := 0) rfl))
        refine Goes.go st9 ?_
        show Goes p e below s _ _ _ (T9.setTop (mkF m 52 #[.val (.ref r0)] []))
        refine Goes.go (fun _ kst => XS.aloadN X9.here hx rfl (hb hby d7_52) rfl rfl  kst) ?_
        show Goes p e below s _ _ _ (T9.setTop (mkF m 53 #[.val (.ref r0)] [(.ref r0)]))
        refine Goes.go (fun _ kst => XS.iconst X9.here hx rfl (hb hby d7_53) kst) ?_
        show Goes p e below s _ _ _ (T9.setTop (mkF m 54 #[.val (.ref r0)] [(.int (0 : Int32)), (.ref r0)]))
        obtain ⟨T10, h10, X10, e10, W10, st10⟩ := putFN X9 hx hZ hown (hw _ (List.mem_of_getElem? (i := 57) rfl)) Via.refl e9 ((F_r0_terminated.other W8 (Or.inr (slot_ne (Or.inl (hw _ (List.mem_of_getElem? (i := 58) rfl))) (Or.inl (hw _ (List.mem_of_getElem? (i := 41) rfl))) (by decide) (t := .boolean) (t' := .int) (by decide) (by decide)))).other W9 (Or.inr (slot_ne (Or.inl (hw _ (List.mem_of_getElem? (i := 58) rfl))) (Or.inl (hw _ (List.mem_of_getElem? (i := 56) rfl))) (by decide) (t := .boolean) (t' := .int) (by decide) (by decide)))) ((E_r0.wr W8).wr W9) (Or.inl (hw _ (List.mem_of_getElem? (i := 58) rfl))) (hw _ (List.mem_of_getElem? (i := 1) rfl)) (ty := .boolean) (v' := (.int (nar .boolean (0 : Int32)))) (by decide) rfl (fits_nar_bool _) (g := (mkF m 54 #[.val (.ref r0)] [(.int (0 : Int32)), (.ref r0)])) rfl rfl (hb hby d7_54)
        have Fw10 := ((F_r0_terminated.other W8 (Or.inr (slot_ne (Or.inl (hw _ (List.mem_of_getElem? (i := 58) rfl))) (Or.inl (hw _ (List.mem_of_getElem? (i := 41) rfl))) (by decide) (t := .boolean) (t' := .int) (by decide) (by decide)))).other W9 (Or.inr (slot_ne (Or.inl (hw _ (List.mem_of_getElem? (i := 58) rfl))) (Or.inl (hw _ (List.mem_of_getElem? (i := 56) rfl))) (by decide) (t := .boolean) (t' := .int) (by decide) (by decide)))).same W10
        have N10 := Fr.snoc X10 N9 g_r0
        have Z10 := Nat.le_trans Z9 (Keep.of_wr W10).1
        have K10 := Keep.wr K9 W10 (Or.inl (List.mem_of_getElem? (i := 0) rfl))
        refine Goes.go st10 ?_
        show Goes p e below s _ _ _ (T10.setTop (mkF m 57 #[.val (.ref r0)] []))
        refine Goes.go (fun _ kst => XS.aloadN X10.here hx rfl (hb hby d7_57) rfl rfl  kst) ?_
        show Goes p e below s _ _ _ (T10.setTop (mkF m 58 #[.val (.ref r0)] [(.ref r0)]))
        refine Goes.go (fun _ kst => XS.dup X10.here hx rfl (hb hby d7_58) rfl rfl kst) ?_
        show Goes p e below s _ _ _ (T10.setTop (mkF m 59 #[.val (.ref r0)] [(.ref r0), (.ref r0)]))
        obtain ⟨T11, X11, e11, st11⟩ := getF X10 hx hZ hown (host := "") (Or.inl (hw _ (List.mem_of_getElem? (i := 59) rfl))) Via.refl e10 (((F_r0_state.other W8 (Or.inr (slot_ne (Or.inl (hw _ (List.mem_of_getElem? (i := 60) rfl))) (Or.inl (hw _ (List.mem_of_getElem? (i := 41) rfl))) (by decide) (t := .int) (t' := .int) (by decide) (by decide)))).other W9 (Or.inr (slot_ne (Or.inl (hw _ (List.mem_of_getElem? (i := 60) rfl))) (Or.inl (hw _ (List.mem_of_getElem? (i := 56) rfl))) (by decide) (t := .int) (t' := .int) (by decide) (by decide)))).other W10 (Or.inr (slot_ne (Or.inl (hw _ (List.mem_of_getElem? (i := 60) rfl))) (Or.inl (hw _ (List.mem_of_getElem? (i := 58) rfl))) (by decide) (t := .int) (t' := .boolean) (by decide) (by decide)))) (g := (mkF m 59 #[.val (.ref r0)] [(.ref r0), (.ref r0)])) rfl rfl (hb hby d7_59)
        refine Goes.go st11 ?_
        show Goes p e below s _ _ _ (T11.setTop (mkF m 62 #[.val (.ref r0)] [(.int w_r0_state), (.ref r0)]))
        refine Goes.go (fun _ kst => XS.iconst X11.here hx rfl (hb hby d7_62) kst) ?_
        show Goes p e below s _ _ _ (T11.setTop (mkF m 63 #[.val (.ref r0)] [(.int (1 : Int32)), (.int w_r0_state), (.ref r0)]))
        refine Goes.go (fun _ kst => XS.iadd X11.here hx rfl (hb hby d7_63) rfl kst) ?_
        show Goes p e below s _ _ _ (T11.setTop (mkF m 64 #[.val (.ref r0)] [(.int (w_r0_state + (1 : Int32))), (.ref r0)]))
        obtain ⟨T12, h12, X12, e12, W12, st12⟩ := putF X11 hx hZ hown (host := "") (Or.inl (hw _ (List.mem_of_getElem? (i := 59) rfl))) Via.refl e11 (((F_r0_state.other W8 (Or.inr (slot_ne (Or.inl (hw _ (List.mem_of_getElem? (i := 60) rfl))) (Or.inl (hw _ (List.mem_of_getElem? (i := 41) rfl))) (by decide) (t := .int) (t' := .int) (by decide) (by decide)))).other W9 (Or.inr (slot_ne (Or.inl (hw _ (List.mem_of_getElem? (i := 60) rfl))) (Or.inl (hw _ (List.mem_of_getElem? (i := 56) rfl))) (by decide) (t := .int) (t' := .int) (by decide) (by decide)))).other W10 (Or.inr (slot_ne (Or.inl (hw _ (List.mem_of_getElem? (i := 60) rfl))) (Or.inl (hw _ (List.mem_of_getElem? (i := 58) rfl))) (by decide) (t := .int) (t' := .boolean) (by decide) (by decide)))) (((E_r0.wr W8).wr W9).wr W10) (Or.inl (hw _ (List.mem_of_getElem? (i := 60) rfl))) (hw _ (List.mem_of_getElem? (i := 1) rfl)) (ty := .int) (by decide) rfl rfl (g := (mkF m 64 #[.val (.ref r0)] [(.int (w_r0_state + (1 : Int32))), (.ref r0)])) rfl rfl (hb hby d7_64)
        have Fw12 := (((F_r0_state.other W8 (Or.inr (slot_ne (Or.inl (hw _ (List.mem_of_getElem? (i := 60) rfl))) (Or.inl (hw _ (List.mem_of_getElem? (i := 41) rfl))) (by decide) (t := .int) (t' := .int) (by decide) (by decide)))).other W9 (Or.inr (slot_ne (Or.inl (hw _ (List.mem_of_getElem? (i := 60) rfl))) (Or.inl (hw _ (List.mem_of_getElem? (i := 56) rfl))) (by decide) (t := .int) (t' := .int) (by decide) (by decide)))).other W10 (Or.inr (slot_ne (Or.inl (hw _ (List.mem_of_getElem? (i := 60) rfl))) (Or.inl (hw _ (List.mem_of_getElem? (i := 58) rfl))) (by decide) (t := .int) (t' := .boolean) (by decide) (by decide)))).same W12
        have N12 := Fr.snoc X12 N10 g_r0
        have Z12 := Nat.le_trans Z10 (Keep.of_wr W12).1
        have K12 := Keep.wr K10 W12 (Or.inl (List.mem_of_getElem? (i := 0) rfl))
        refine Goes.go st12 ?_
        show Goes p e below s _ _ _ (T12.setTop (mkF m 67 #[.val (.ref r0)] []))
        refine Goes.ret0 X12 hx hlk Bd.returns (hb hby d7_67) ?_ (by decide) (by decide)
        exact (show Q_rm7 Z r0 w_r0_reached w_r0_state w_r0_outgoing w_r0_terminated w_r0_transitions w_r0_firstStuck w_r0_secondStuck h0 n0 _ T12.heap _ by rw [e12]; exact ⟨rfl, N12, K12, ((((E_r0.wr W8).wr W9).wr W10).wr W12), ((((F_r0_reached.other W8 (Or.inr (slot_ne (Or.inl (hw _ (List.mem_of_getElem? (i := 39) rfl))) (Or.inl (hw _ (List.mem_of_getElem? (i := 41) rfl))) (by decide) (t := .int) (t' := .int) (by decide) (by decide)))).other W9 (Or.inr (slot_ne (Or.inl (hw _ (List.mem_of_getElem? (i := 39) rfl))) (Or.inl (hw _ (List.mem_of_getElem? (i := 56) rfl))) (by decide) (t := .int) (t' := .int) (by decide) (by decide)))).other W10 (Or.inr (slot_ne (Or.inl (hw _ (List.mem_of_getElem? (i := 39) rfl))) (Or.inl (hw _ (List.mem_of_getElem? (i := 58) rfl))) (by decide) (t := .int) (t' := .boolean) (by decide) (by decide)))).other W12 (Or.inr (slot_ne (Or.inl (hw _ (List.mem_of_getElem? (i := 39) rfl))) (Or.inl (hw _ (List.mem_of_getElem? (i := 60) rfl))) (by decide) (t := .int) (t' := .int) (by decide) (by decide)))), Fw12, ((Fw9.other W10 (Or.inr (slot_ne (Or.inl (hw _ (List.mem_of_getElem? (i := 56) rfl))) (Or.inl (hw _ (List.mem_of_getElem? (i := 58) rfl))) (by decide) (t := .int) (t' := .boolean) (by decide) (by decide)))).other W12 (Or.inr (slot_ne (Or.inl (hw _ (List.mem_of_getElem? (i := 56) rfl))) (Or.inl (hw _ (List.mem_of_getElem? (i := 60) rfl))) (by decide) (t := .int) (t' := .int) (by decide) (by decide)))), (Fw10.other W12 (Or.inr (slot_ne (Or.inl (hw _ (List.mem_of_getElem? (i := 58) rfl))) (Or.inl (hw _ (List.mem_of_getElem? (i := 60) rfl))) (by decide) (t := .boolean) (t' := .int) (by decide) (by decide)))), ((((F_r0_transitions.other W8 (Or.inr (slot_ne (Or.inl (hw _ (List.mem_of_getElem? (i := 77) rfl))) (Or.inl (hw _ (List.mem_of_getElem? (i := 41) rfl))) (by decide) (t := .long) (t' := .int) (by decide) (by decide)))).other W9 (Or.inr (slot_ne (Or.inl (hw _ (List.mem_of_getElem? (i := 77) rfl))) (Or.inl (hw _ (List.mem_of_getElem? (i := 56) rfl))) (by decide) (t := .long) (t' := .int) (by decide) (by decide)))).other W10 (Or.inr (slot_ne (Or.inl (hw _ (List.mem_of_getElem? (i := 77) rfl))) (Or.inl (hw _ (List.mem_of_getElem? (i := 58) rfl))) (by decide) (t := .long) (t' := .boolean) (by decide) (by decide)))).other W12 (Or.inr (slot_ne (Or.inl (hw _ (List.mem_of_getElem? (i := 77) rfl))) (Or.inl (hw _ (List.mem_of_getElem? (i := 60) rfl))) (by decide) (t := .long) (t' := .int) (by decide) (by decide)))), (by rw [show (g_rm7_6 r0 w_r0_reached w_r0_state w_r0_outgoing w_r0_terminated w_r0_transitions w_r0_firstStuck w_r0_secondStuck) = w_r0_state from by simp only [g_rm7_6, if_pos hc4_2, if_pos hc11_4, if_pos hc18_6]]; exact (((Fw8.other W9 (Or.inr (slot_ne (Or.inl (hw _ (List.mem_of_getElem? (i := 41) rfl))) (Or.inl (hw _ (List.mem_of_getElem? (i := 56) rfl))) (by decide) (t := .int) (t' := .int) (by decide) (by decide)))).other W10 (Or.inr (slot_ne (Or.inl (hw _ (List.mem_of_getElem? (i := 41) rfl))) (Or.inl (hw _ (List.mem_of_getElem? (i := 58) rfl))) (by decide) (t := .int) (t' := .boolean) (by decide) (by decide)))).other W12 (Or.inr (slot_ne (Or.inl (hw _ (List.mem_of_getElem? (i := 41) rfl))) (Or.inl (hw _ (List.mem_of_getElem? (i := 60) rfl))) (by decide) (t := .int) (t' := .int) (by decide) (by decide))))), (by rw [show (g_rm7_7 r0 w_r0_reached w_r0_state w_r0_outgoing w_r0_terminated w_r0_transitions w_r0_firstStuck w_r0_secondStuck) = w_r0_secondStuck from by simp only [g_rm7_7, if_pos hc4_2, if_pos hc11_4, if_pos hc18_6]]; exact ((((F_r0_secondStuck.other W8 (Or.inr (slot_ne (Or.inl (hw _ (List.mem_of_getElem? (i := 43) rfl))) (Or.inl (hw _ (List.mem_of_getElem? (i := 41) rfl))) (by decide) (t := .int) (t' := .int) (by decide) (by decide)))).other W9 (Or.inr (slot_ne (Or.inl (hw _ (List.mem_of_getElem? (i := 43) rfl))) (Or.inl (hw _ (List.mem_of_getElem? (i := 56) rfl))) (by decide) (t := .int) (t' := .int) (by decide) (by decide)))).other W10 (Or.inr (slot_ne (Or.inl (hw _ (List.mem_of_getElem? (i := 43) rfl))) (Or.inl (hw _ (List.mem_of_getElem? (i := 58) rfl))) (by decide) (t := .int) (t' := .boolean) (by decide) (by decide)))).other W12 (Or.inr (slot_ne (Or.inl (hw _ (List.mem_of_getElem? (i := 43) rfl))) (Or.inl (hw _ (List.mem_of_getElem? (i := 60) rfl))) (by decide) (t := .int) (t' := .int) (by decide) (by decide)))))⟩)
      · skip
        refine Goes.go (fun _ kst => XS.ifYes X5.here hx rfl (pc0 := 18) (pc' := 32) rfl (hb hby d7_18) rfl ((if0 _ _).trans (flt hc18_6).2.1) (by decide) (by decide) kst) ?_
        show Goes p e below s _ _ _ (T5.setTop (mkF m 32 #[.val (.ref r0)] []))
        refine Goes.go (fun _ kst => XS.aloadN X5.here hx rfl (hb hby d7_32) rfl rfl  kst) ?_
        show Goes p e below s _ _ _ (T5.setTop (mkF m 33 #[.val (.ref r0)] [(.ref r0)]))
        obtain ⟨T13, X13, e13, st13⟩ := getF X5 hx hZ hown (host := "") (Or.inl (hw _ (List.mem_of_getElem? (i := 42) rfl))) Via.refl e5 F_r0_secondStuck (g := (mkF m 33 #[.val (.ref r0)] [(.ref r0)])) rfl rfl (hb hby d7_33)
        refine Goes.go st13 ?_
        show Goes p e below s _ _ _ (T13.setTop (mkF m 36 #[.val (.ref r0)] [(.int w_r0_secondStuck)]))
        by_cases hc36_14 : w_r0_secondStuck < (0 : Int32)
        · skip
          refine Goes.go (fun _ kst => XS.ifNo X13.here hx rfl (hb hby d7_36) rfl ((if0 _ _).trans (tlt hc36_14).2.1) kst) ?_
          show Goes p e below s _ _ _ (T13.setTop (mkF m 39 #[.val (.ref r0)] []))
          refine Goes.go (fun _ kst => XS.aloadN X13.here hx rfl (hb hby d7_39) rfl rfl  kst) ?_
          show Goes p e below s _ _ _ (T13.setTop (mkF m 40 #[.val (.ref r0)] [(.ref r0)]))
          refine Goes.go (fun _ kst => XS.aloadN X13.here hx rfl (hb hby d7_40) rfl rfl  kst) ?_
          show Goes p e below s _ _ _ (T13.setTop (mkF m 41 #[.val (.ref r0)] [(.ref r0), (.ref r0)]))
          obtain ⟨T15, X15, e15, st15⟩ := getF X13 hx hZ hown (host := "") (Or.inl (hw _ (List.mem_of_getElem? (i := 59) rfl))) Via.refl e13 F_r0_state (g := (mkF m 41 #[.val (.ref r0)] [(.ref r0), (.ref r0)])) rfl rfl (hb hby d7_41)
          refine Goes.go st15 ?_
          show Goes p e below s _ _ _ (T15.setTop (mkF m 44 #[.val (.ref r0)] [(.int w_r0_state), (.ref r0)]))
          obtain ⟨T16, h16, X16, e16, W16, st16⟩ := putF X15 hx hZ hown (host := "") (Or.inl (hw _ (List.mem_of_getElem? (i := 42) rfl))) Via.refl e15 F_r0_secondStuck E_r0 (Or.inl (hw _ (List.mem_of_getElem? (i := 43) rfl))) (hw _ (List.mem_of_getElem? (i := 1) rfl)) (ty := .int) (by decide) rfl rfl (g := (mkF m 44 #[.val (.ref r0)] [(.int w_r0_state), (.ref r0)])) rfl rfl (hb hby d7_44)
          have Fw16 := F_r0_secondStuck.same W16
          have N16 := Fr.snoc X16 N0 g_r0
          have Z16 := Nat.le_trans Z0 (Keep.of_wr W16).1
          have K16 := Keep.wr K0 W16 (Or.inl (List.mem_of_getElem? (i := 0) rfl))
          refine Goes.go st16 ?_
          show Goes p e below s _ _ _ (T16.setTop (mkF m 47 #[.val (.ref r0)] []))
          refine Goes.go (fun _ kst => XS.aloadN X16.here hx rfl (hb hby d7_47) rfl rfl  kst) ?_
          show Goes p e below s _ _ _ (T16.setTop (mkF m 48 #[.val (.ref r0)] [(.ref r0)]))
          refine Goes.go (fun _ kst => XS.iconst X16.here hx rfl (hb hby d7_48) kst) ?_
          show Goes p e below s _ _ _ (T16.setTop (mkF m 49 #[.val (.ref r0)] [(.int (0 : Int32)), (.ref r0)]))
          obtain ⟨T17, h17, X17, e17, W17, st17⟩ := putF X16 hx hZ hown (host := "") (Or.inl (hw _ (List.mem_of_getElem? (i := 55) rfl))) Via.refl e16 (F_r0_outgoing.other W16 (Or.inr (slot_ne (Or.inl (hw _ (List.mem_of_getElem? (i := 56) rfl))) (Or.inl (hw _ (List.mem_of_getElem? (i := 43) rfl))) (by decide) (t := .int) (t' := .int) (by decide) (by decide)))) (E_r0.wr W16) (Or.inl (hw _ (List.mem_of_getElem? (i := 56) rfl))) (hw _ (List.mem_of_getElem? (i := 1) rfl)) (ty := .int) (by decide) rfl rfl (g := (mkF m 49 #[.val (.ref r0)] [(.int (0 : Int32)), (.ref r0)])) rfl rfl (hb hby d7_49)
          have Fw17 := (F_r0_outgoing.other W16 (Or.inr (slot_ne (Or.inl (hw _ (List.mem_of_getElem? (i := 56) rfl))) (Or.inl (hw _ (List.mem_of_getElem? (i := 43) rfl))) (by decide) (t := .int) (t' := .int) (by decide) (by decide)))).same W17
          have N17 := Fr.snoc X17 N16 g_r0
          have Z17 := Nat.le_trans Z16 (Keep.of_wr W17).1
          have K17 := Keep.wr K16 W17 (Or.inl (List.mem_of_getElem? (i := 0) rfl))
          refine Goes.go st17 ?_
          show Goes p e below s _ _ _ (T17.setTop (mkF m 52 #[.val (.ref r0)] []))
          refine Goes.go (fun _ kst => XS.aloadN X17.here hx rfl (hb hby d7_52) rfl rfl  kst) ?_
          show Goes p e below s _ _ _ (T17.setTop (mkF m 53 #[.val (.ref r0)] [(.ref r0)]))
          refine Goes.go (fun _ kst => XS.iconst X17.here hx rfl (hb hby d7_53) kst) ?_
          show Goes p e below s _ _ _ (T17.setTop (mkF m 54 #[.val (.ref r0)] [(.int (0 : Int32)), (.ref r0)]))
          obtain ⟨T18, h18, X18, e18, W18, st18⟩ := putFN X17 hx hZ hown (hw _ (List.mem_of_getElem? (i := 57) rfl)) Via.refl e17 ((F_r0_terminated.other W16 (Or.inr (slot_ne (Or.inl (hw _ (List.mem_of_getElem? (i := 58) rfl))) (Or.inl (hw _ (List.mem_of_getElem? (i := 43) rfl))) (by decide) (t := .boolean) (t' := .int) (by decide) (by decide)))).other W17 (Or.inr (slot_ne (Or.inl (hw _ (List.mem_of_getElem? (i := 58) rfl))) (Or.inl (hw _ (List.mem_of_getElem? (i := 56) rfl))) (by decide) (t := .boolean) (t' := .int) (by decide) (by decide)))) ((E_r0.wr W16).wr W17) (Or.inl (hw _ (List.mem_of_getElem? (i := 58) rfl))) (hw _ (List.mem_of_getElem? (i := 1) rfl)) (ty := .boolean) (v' := (.int (nar .boolean (0 : Int32)))) (by decide) rfl (fits_nar_bool _) (g := (mkF m 54 #[.val (.ref r0)] [(.int (0 : Int32)), (.ref r0)])) rfl rfl (hb hby d7_54)
          have Fw18 := ((F_r0_terminated.other W16 (Or.inr (slot_ne (Or.inl (hw _ (List.mem_of_getElem? (i := 58) rfl))) (Or.inl (hw _ (List.mem_of_getElem? (i := 43) rfl))) (by decide) (t := .boolean) (t' := .int) (by decide) (by decide)))).other W17 (Or.inr (slot_ne (Or.inl (hw _ (List.mem_of_getElem? (i := 58) rfl))) (Or.inl (hw _ (List.mem_of_getElem? (i := 56) rfl))) (by decide) (t := .boolean) (t' := .int) (by decide) (by decide)))).same W18
          have N18 := Fr.snoc X18 N17 g_r0
          have Z18 := Nat.le_trans Z17 (Keep.of_wr W18).1
          have K18 := Keep.wr K17 W18 (Or.inl (List.mem_of_getElem? (i := 0) rfl))
          refine Goes.go st18 ?_
          show Goes p e below s _ _ _ (T18.setTop (mkF m 57 #[.val (.ref r0)] []))
          refine Goes.go (fun _ kst => XS.aloadN X18.here hx rfl (hb hby d7_57) rfl rfl  kst) ?_
          show Goes p e below s _ _ _ (T18.setTop (mkF m 58 #[.val (.ref r0)] [(.ref r0)]))
          refine Goes.go (fun _ kst => XS.dup X18.here hx rfl (hb hby d7_58) rfl rfl kst) ?_
          show Goes p e below s _ _ _ (T18.setTop (mkF m 59 #[.val (.ref r0)] [(.ref r0), (.ref r0)]))
          obtain ⟨T19, X19, e19, st19⟩ := getF X18 hx hZ hown (host := "") (Or.inl (hw _ (List.mem_of_getElem? (i := 59) rfl))) Via.refl e18 (((F_r0_state.other W16 (Or.inr (slot_ne (Or.inl (hw _ (List.mem_of_getElem? (i := 60) rfl))) (Or.inl (hw _ (List.mem_of_getElem? (i := 43) rfl))) (by decide) (t := .int) (t' := .int) (by decide) (by decide)))).other W17 (Or.inr (slot_ne (Or.inl (hw _ (List.mem_of_getElem? (i := 60) rfl))) (Or.inl (hw _ (List.mem_of_getElem? (i := 56) rfl))) (by decide) (t := .int) (t' := .int) (by decide) (by decide)))).other W18 (Or.inr (slot_ne (Or.inl (hw _ (List.mem_of_getElem? (i := 60) rfl))) (Or.inl (hw _ (List.mem_of_getElem? (i := 58) rfl))) (by decide) (t := .int) (t' := .boolean) (by decide) (by decide)))) (g := (mkF m 59 #[.val (.ref r0)] [(.ref r0), (.ref r0)])) rfl rfl (hb hby d7_59)
          refine Goes.go st19 ?_
          show Goes p e below s _ _ _ (T19.setTop (mkF m 62 #[.val (.ref r0)] [(.int w_r0_state), (.ref r0)]))
          refine Goes.go (fun _ kst => XS.iconst X19.here hx rfl (hb hby d7_62) kst) ?_
          show Goes p e below s _ _ _ (T19.setTop (mkF m 63 #[.val (.ref r0)] [(.int (1 : Int32)), (.int w_r0_state), (.ref r0)]))
          refine Goes.go (fun _ kst => XS.iadd X19.here hx rfl (hb hby d7_63) rfl kst) ?_
          show Goes p e below s _ _ _ (T19.setTop (mkF m 64 #[.val (.ref r0)] [(.int (w_r0_state + (1 : Int32))), (.ref r0)]))
          obtain ⟨T20, h20, X20, e20, W20, st20⟩ := putF X19 hx hZ hown (host := "") (Or.inl (hw _ (List.mem_of_getElem? (i := 59) rfl))) Via.refl e19 (((F_r0_state.other W16 (Or.inr (slot_ne (Or.inl (hw _ (List.mem_of_getElem? (i := 60) rfl))) (Or.inl (hw _ (List.mem_of_getElem? (i := 43) rfl))) (by decide) (t := .int) (t' := .int) (by decide) (by decide)))).other W17 (Or.inr (slot_ne (Or.inl (hw _ (List.mem_of_getElem? (i := 60) rfl))) (Or.inl (hw _ (List.mem_of_getElem? (i := 56) rfl))) (by decide) (t := .int) (t' := .int) (by decide) (by decide)))).other W18 (Or.inr (slot_ne (Or.inl (hw _ (List.mem_of_getElem? (i := 60) rfl))) (Or.inl (hw _ (List.mem_of_getElem? (i := 58) rfl))) (by decide) (t := .int) (t' := .boolean) (by decide) (by decide)))) (((E_r0.wr W16).wr W17).wr W18) (Or.inl (hw _ (List.mem_of_getElem? (i := 60) rfl))) (hw _ (List.mem_of_getElem? (i := 1) rfl)) (ty := .int) (by decide) rfl rfl (g := (mkF m 64 #[.val (.ref r0)] [(.int (w_r0_state + (1 : Int32))), (.ref r0)])) rfl rfl (hb hby d7_64)
          have Fw20 := (((F_r0_state.other W16 (Or.inr (slot_ne (Or.inl (hw _ (List.mem_of_getElem? (i := 60) rfl))) (Or.inl (hw _ (List.mem_of_getElem? (i := 43) rfl))) (by decide) (t := .int) (t' := .int) (by decide) (by decide)))).other W17 (Or.inr (slot_ne (Or.inl (hw _ (List.mem_of_getElem? (i := 60) rfl))) (Or.inl (hw _ (List.mem_of_getElem? (i := 56) rfl))) (by decide) (t := .int) (t' := .int) (by decide) (by decide)))).other W18 (Or.inr (slot_ne (Or.inl (hw _ (List.mem_of_getElem? (i := 60) rfl))) (Or.inl (hw _ (List.mem_of_getElem? (i := 58) rfl))) (by decide) (t := .int) (t' := .boolean) (by decide) (by decide)))).same W20
          have N20 := Fr.snoc X20 N18 g_r0
          have Z20 := Nat.le_trans Z18 (Keep.of_wr W20).1
          have K20 := Keep.wr K18 W20 (Or.inl (List.mem_of_getElem? (i := 0) rfl))
          refine Goes.go st20 ?_
          show Goes p e below s _ _ _ (T20.setTop (mkF m 67 #[.val (.ref r0)] []))
          refine Goes.ret0 X20 hx hlk Bd.returns (hb hby d7_67) ?_ (by decide) (by decide)
          exact (show Q_rm7 Z r0 w_r0_reached w_r0_state w_r0_outgoing w_r0_terminated w_r0_transitions w_r0_firstStuck w_r0_secondStuck h0 n0 _ T20.heap _ by rw [e20]; exact ⟨rfl, N20, K20, ((((E_r0.wr W16).wr W17).wr W18).wr W20), ((((F_r0_reached.other W16 (Or.inr (slot_ne (Or.inl (hw _ (List.mem_of_getElem? (i := 39) rfl))) (Or.inl (hw _ (List.mem_of_getElem? (i := 43) rfl))) (by decide) (t := .int) (t' := .int) (by decide) (by decide)))).other W17 (Or.inr (slot_ne (Or.inl (hw _ (List.mem_of_getElem? (i := 39) rfl))) (Or.inl (hw _ (List.mem_of_getElem? (i := 56) rfl))) (by decide) (t := .int) (t' := .int) (by decide) (by decide)))).other W18 (Or.inr (slot_ne (Or.inl (hw _ (List.mem_of_getElem? (i := 39) rfl))) (Or.inl (hw _ (List.mem_of_getElem? (i := 58) rfl))) (by decide) (t := .int) (t' := .boolean) (by decide) (by decide)))).other W20 (Or.inr (slot_ne (Or.inl (hw _ (List.mem_of_getElem? (i := 39) rfl))) (Or.inl (hw _ (List.mem_of_getElem? (i := 60) rfl))) (by decide) (t := .int) (t' := .int) (by decide) (by decide)))), Fw20, ((Fw17.other W18 (Or.inr (slot_ne (Or.inl (hw _ (List.mem_of_getElem? (i := 56) rfl))) (Or.inl (hw _ (List.mem_of_getElem? (i := 58) rfl))) (by decide) (t := .int) (t' := .boolean) (by decide) (by decide)))).other W20 (Or.inr (slot_ne (Or.inl (hw _ (List.mem_of_getElem? (i := 56) rfl))) (Or.inl (hw _ (List.mem_of_getElem? (i := 60) rfl))) (by decide) (t := .int) (t' := .int) (by decide) (by decide)))), (Fw18.other W20 (Or.inr (slot_ne (Or.inl (hw _ (List.mem_of_getElem? (i := 58) rfl))) (Or.inl (hw _ (List.mem_of_getElem? (i := 60) rfl))) (by decide) (t := .boolean) (t' := .int) (by decide) (by decide)))), ((((F_r0_transitions.other W16 (Or.inr (slot_ne (Or.inl (hw _ (List.mem_of_getElem? (i := 77) rfl))) (Or.inl (hw _ (List.mem_of_getElem? (i := 43) rfl))) (by decide) (t := .long) (t' := .int) (by decide) (by decide)))).other W17 (Or.inr (slot_ne (Or.inl (hw _ (List.mem_of_getElem? (i := 77) rfl))) (Or.inl (hw _ (List.mem_of_getElem? (i := 56) rfl))) (by decide) (t := .long) (t' := .int) (by decide) (by decide)))).other W18 (Or.inr (slot_ne (Or.inl (hw _ (List.mem_of_getElem? (i := 77) rfl))) (Or.inl (hw _ (List.mem_of_getElem? (i := 58) rfl))) (by decide) (t := .long) (t' := .boolean) (by decide) (by decide)))).other W20 (Or.inr (slot_ne (Or.inl (hw _ (List.mem_of_getElem? (i := 77) rfl))) (Or.inl (hw _ (List.mem_of_getElem? (i := 60) rfl))) (by decide) (t := .long) (t' := .int) (by decide) (by decide)))), (by rw [show (g_rm7_6 r0 w_r0_reached w_r0_state w_r0_outgoing w_r0_terminated w_r0_transitions w_r0_firstStuck w_r0_secondStuck) = w_r0_firstStuck from by simp only [g_rm7_6, if_pos hc4_2, if_pos hc11_4, if_neg hc18_6, if_pos hc36_14]]; exact ((((F_r0_firstStuck.other W16 (Or.inr (slot_ne (Or.inl (hw _ (List.mem_of_getElem? (i := 41) rfl))) (Or.inl (hw _ (List.mem_of_getElem? (i := 43) rfl))) (by decide) (t := .int) (t' := .int) (by decide) (by decide)))).other W17 (Or.inr (slot_ne (Or.inl (hw _ (List.mem_of_getElem? (i := 41) rfl))) (Or.inl (hw _ (List.mem_of_getElem? (i := 56) rfl))) (by decide) (t := .int) (t' := .int) (by decide) (by decide)))).other W18 (Or.inr (slot_ne (Or.inl (hw _ (List.mem_of_getElem? (i := 41) rfl))) (Or.inl (hw _ (List.mem_of_getElem? (i := 58) rfl))) (by decide) (t := .int) (t' := .boolean) (by decide) (by decide)))).other W20 (Or.inr (slot_ne (Or.inl (hw _ (List.mem_of_getElem? (i := 41) rfl))) (Or.inl (hw _ (List.mem_of_getElem? (i := 60) rfl))) (by decide) (t := .int) (t' := .int) (by decide) (by decide))))), (by rw [show (g_rm7_7 r0 w_r0_reached w_r0_state w_r0_outgoing w_r0_terminated w_r0_transitions w_r0_firstStuck w_r0_secondStuck) = w_r0_state from by simp only [g_rm7_7, if_pos hc4_2, if_pos hc11_4, if_neg hc18_6, if_pos hc36_14]]; exact (((Fw16.other W17 (Or.inr (slot_ne (Or.inl (hw _ (List.mem_of_getElem? (i := 43) rfl))) (Or.inl (hw _ (List.mem_of_getElem? (i := 56) rfl))) (by decide) (t := .int) (t' := .int) (by decide) (by decide)))).other W18 (Or.inr (slot_ne (Or.inl (hw _ (List.mem_of_getElem? (i := 43) rfl))) (Or.inl (hw _ (List.mem_of_getElem? (i := 58) rfl))) (by decide) (t := .int) (t' := .boolean) (by decide) (by decide)))).other W20 (Or.inr (slot_ne (Or.inl (hw _ (List.mem_of_getElem? (i := 43) rfl))) (Or.inl (hw _ (List.mem_of_getElem? (i := 60) rfl))) (by decide) (t := .int) (t' := .int) (by decide) (by decide)))))⟩)
        · skip
          refine Goes.go (fun _ kst => XS.ifYes X13.here hx rfl (pc0 := 36) (pc' := 47) rfl (hb hby d7_36) rfl ((if0 _ _).trans (flt hc36_14).2.1) (by decide) (by decide) kst) ?_
          show Goes p e below s _ _ _ (T13.setTop (mkF m 47 #[.val (.ref r0)] []))
          refine Goes.go (fun _ kst => XS.aloadN X13.here hx rfl (hb hby d7_47) rfl rfl  kst) ?_
          show Goes p e below s _ _ _ (T13.setTop (mkF m 48 #[.val (.ref r0)] [(.ref r0)]))
          refine Goes.go (fun _ kst => XS.iconst X13.here hx rfl (hb hby d7_48) kst) ?_
          show Goes p e below s _ _ _ (T13.setTop (mkF m 49 #[.val (.ref r0)] [(.int (0 : Int32)), (.ref r0)]))
          obtain ⟨T21, h21, X21, e21, W21, st21⟩ := putF X13 hx hZ hown (host := "") (Or.inl (hw _ (List.mem_of_getElem? (i := 55) rfl))) Via.refl e13 F_r0_outgoing E_r0 (Or.inl (hw _ (List.mem_of_getElem? (i := 56) rfl))) (hw _ (List.mem_of_getElem? (i := 1) rfl)) (ty := .int) (by decide) rfl rfl (g := (mkF m 49 #[.val (.ref r0)] [(.int (0 : Int32)), (.ref r0)])) rfl rfl (hb hby d7_49)
          have Fw21 := F_r0_outgoing.same W21
          have N21 := Fr.snoc X21 N0 g_r0
          have Z21 := Nat.le_trans Z0 (Keep.of_wr W21).1
          have K21 := Keep.wr K0 W21 (Or.inl (List.mem_of_getElem? (i := 0) rfl))
          refine Goes.go st21 ?_
          show Goes p e below s _ _ _ (T21.setTop (mkF m 52 #[.val (.ref r0)] []))
          refine Goes.go (fun _ kst => XS.aloadN X21.here hx rfl (hb hby d7_52) rfl rfl  kst) ?_
          show Goes p e below s _ _ _ (T21.setTop (mkF m 53 #[.val (.ref r0)] [(.ref r0)]))
          refine Goes.go (fun _ kst => XS.iconst X21.here hx rfl (hb hby d7_53) kst) ?_
          show Goes p e below s _ _ _ (T21.setTop (mkF m 54 #[.val (.ref r0)] [(.int (0 : Int32)), (.ref r0)]))
          obtain ⟨T22, h22, X22, e22, W22, st22⟩ := putFN X21 hx hZ hown (hw _ (List.mem_of_getElem? (i := 57) rfl)) Via.refl e21 (F_r0_terminated.other W21 (Or.inr (slot_ne (Or.inl (hw _ (List.mem_of_getElem? (i := 58) rfl))) (Or.inl (hw _ (List.mem_of_getElem? (i := 56) rfl))) (by decide) (t := .boolean) (t' := .int) (by decide) (by decide)))) (E_r0.wr W21) (Or.inl (hw _ (List.mem_of_getElem? (i := 58) rfl))) (hw _ (List.mem_of_getElem? (i := 1) rfl)) (ty := .boolean) (v' := (.int (nar .boolean (0 : Int32)))) (by decide) rfl (fits_nar_bool _) (g := (mkF m 54 #[.val (.ref r0)] [(.int (0 : Int32)), (.ref r0)])) rfl rfl (hb hby d7_54)
          have Fw22 := (F_r0_terminated.other W21 (Or.inr (slot_ne (Or.inl (hw _ (List.mem_of_getElem? (i := 58) rfl))) (Or.inl (hw _ (List.mem_of_getElem? (i := 56) rfl))) (by decide) (t := .boolean) (t' := .int) (by decide) (by decide)))).same W22
          have N22 := Fr.snoc X22 N21 g_r0
          have Z22 := Nat.le_trans Z21 (Keep.of_wr W22).1
          have K22 := Keep.wr K21 W22 (Or.inl (List.mem_of_getElem? (i := 0) rfl))
          refine Goes.go st22 ?_
          show Goes p e below s _ _ _ (T22.setTop (mkF m 57 #[.val (.ref r0)] []))
          refine Goes.go (fun _ kst => XS.aloadN X22.here hx rfl (hb hby d7_57) rfl rfl  kst) ?_
          show Goes p e below s _ _ _ (T22.setTop (mkF m 58 #[.val (.ref r0)] [(.ref r0)]))
          refine Goes.go (fun _ kst => XS.dup X22.here hx rfl (hb hby d7_58) rfl rfl kst) ?_
          show Goes p e below s _ _ _ (T22.setTop (mkF m 59 #[.val (.ref r0)] [(.ref r0), (.ref r0)]))
          obtain ⟨T23, X23, e23, st23⟩ := getF X22 hx hZ hown (host := "") (Or.inl (hw _ (List.mem_of_getElem? (i := 59) rfl))) Via.refl e22 ((F_r0_state.other W21 (Or.inr (slot_ne (Or.inl (hw _ (List.mem_of_getElem? (i := 60) rfl))) (Or.inl (hw _ (List.mem_of_getElem? (i := 56) rfl))) (by decide) (t := .int) (t' := .int) (by decide) (by decide)))).other W22 (Or.inr (slot_ne (Or.inl (hw _ (List.mem_of_getElem? (i := 60) rfl))) (Or.inl (hw _ (List.mem_of_getElem? (i := 58) rfl))) (by decide) (t := .int) (t' := .boolean) (by decide) (by decide)))) (g := (mkF m 59 #[.val (.ref r0)] [(.ref r0), (.ref r0)])) rfl rfl (hb hby d7_59)
          refine Goes.go st23 ?_
          show Goes p e below s _ _ _ (T23.setTop (mkF m 62 #[.val (.ref r0)] [(.int w_r0_state), (.ref r0)]))
          refine Goes.go (fun _ kst => XS.iconst X23.here hx rfl (hb hby d7_62) kst) ?_
          show Goes p e below s _ _ _ (T23.setTop (mkF m 63 #[.val (.ref r0)] [(.int (1 : Int32)), (.int w_r0_state), (.ref r0)]))
          refine Goes.go (fun _ kst => XS.iadd X23.here hx rfl (hb hby d7_63) rfl kst) ?_
          show Goes p e below s _ _ _ (T23.setTop (mkF m 64 #[.val (.ref r0)] [(.int (w_r0_state + (1 : Int32))), (.ref r0)]))
          obtain ⟨T24, h24, X24, e24, W24, st24⟩ := putF X23 hx hZ hown (host := "") (Or.inl (hw _ (List.mem_of_getElem? (i := 59) rfl))) Via.refl e23 ((F_r0_state.other W21 (Or.inr (slot_ne (Or.inl (hw _ (List.mem_of_getElem? (i := 60) rfl))) (Or.inl (hw _ (List.mem_of_getElem? (i := 56) rfl))) (by decide) (t := .int) (t' := .int) (by decide) (by decide)))).other W22 (Or.inr (slot_ne (Or.inl (hw _ (List.mem_of_getElem? (i := 60) rfl))) (Or.inl (hw _ (List.mem_of_getElem? (i := 58) rfl))) (by decide) (t := .int) (t' := .boolean) (by decide) (by decide)))) ((E_r0.wr W21).wr W22) (Or.inl (hw _ (List.mem_of_getElem? (i := 60) rfl))) (hw _ (List.mem_of_getElem? (i := 1) rfl)) (ty := .int) (by decide) rfl rfl (g := (mkF m 64 #[.val (.ref r0)] [(.int (w_r0_state + (1 : Int32))), (.ref r0)])) rfl rfl (hb hby d7_64)
          have Fw24 := ((F_r0_state.other W21 (Or.inr (slot_ne (Or.inl (hw _ (List.mem_of_getElem? (i := 60) rfl))) (Or.inl (hw _ (List.mem_of_getElem? (i := 56) rfl))) (by decide) (t := .int) (t' := .int) (by decide) (by decide)))).other W22 (Or.inr (slot_ne (Or.inl (hw _ (List.mem_of_getElem? (i := 60) rfl))) (Or.inl (hw _ (List.mem_of_getElem? (i := 58) rfl))) (by decide) (t := .int) (t' := .boolean) (by decide) (by decide)))).same W24
          have N24 := Fr.snoc X24 N22 g_r0
          have Z24 := Nat.le_trans Z22 (Keep.of_wr W24).1
          have K24 := Keep.wr K22 W24 (Or.inl (List.mem_of_getElem? (i := 0) rfl))
          refine Goes.go st24 ?_
          show Goes p e below s _ _ _ (T24.setTop (mkF m 67 #[.val (.ref r0)] []))
          refine Goes.ret0 X24 hx hlk Bd.returns (hb hby d7_67) ?_ (by decide) (by decide)
          exact (show Q_rm7 Z r0 w_r0_reached w_r0_state w_r0_outgoing w_r0_terminated w_r0_transitions w_r0_firstStuck w_r0_secondStuck h0 n0 _ T24.heap _ by rw [e24]; exact ⟨rfl, N24, K24, (((E_r0.wr W21).wr W22).wr W24), (((F_r0_reached.other W21 (Or.inr (slot_ne (Or.inl (hw _ (List.mem_of_getElem? (i := 39) rfl))) (Or.inl (hw _ (List.mem_of_getElem? (i := 56) rfl))) (by decide) (t := .int) (t' := .int) (by decide) (by decide)))).other W22 (Or.inr (slot_ne (Or.inl (hw _ (List.mem_of_getElem? (i := 39) rfl))) (Or.inl (hw _ (List.mem_of_getElem? (i := 58) rfl))) (by decide) (t := .int) (t' := .boolean) (by decide) (by decide)))).other W24 (Or.inr (slot_ne (Or.inl (hw _ (List.mem_of_getElem? (i := 39) rfl))) (Or.inl (hw _ (List.mem_of_getElem? (i := 60) rfl))) (by decide) (t := .int) (t' := .int) (by decide) (by decide)))), Fw24, ((Fw21.other W22 (Or.inr (slot_ne (Or.inl (hw _ (List.mem_of_getElem? (i := 56) rfl))) (Or.inl (hw _ (List.mem_of_getElem? (i := 58) rfl))) (by decide) (t := .int) (t' := .boolean) (by decide) (by decide)))).other W24 (Or.inr (slot_ne (Or.inl (hw _ (List.mem_of_getElem? (i := 56) rfl))) (Or.inl (hw _ (List.mem_of_getElem? (i := 60) rfl))) (by decide) (t := .int) (t' := .int) (by decide) (by decide)))), (Fw22.other W24 (Or.inr (slot_ne (Or.inl (hw _ (List.mem_of_getElem? (i := 58) rfl))) (Or.inl (hw _ (List.mem_of_getElem? (i := 60) rfl))) (by decide) (t := .boolean) (t' := .int) (by decide) (by decide)))), (((F_r0_transitions.other W21 (Or.inr (slot_ne (Or.inl (hw _ (List.mem_of_getElem? (i := 77) rfl))) (Or.inl (hw _ (List.mem_of_getElem? (i := 56) rfl))) (by decide) (t := .long) (t' := .int) (by decide) (by decide)))).other W22 (Or.inr (slot_ne (Or.inl (hw _ (List.mem_of_getElem? (i := 77) rfl))) (Or.inl (hw _ (List.mem_of_getElem? (i := 58) rfl))) (by decide) (t := .long) (t' := .boolean) (by decide) (by decide)))).other W24 (Or.inr (slot_ne (Or.inl (hw _ (List.mem_of_getElem? (i := 77) rfl))) (Or.inl (hw _ (List.mem_of_getElem? (i := 60) rfl))) (by decide) (t := .long) (t' := .int) (by decide) (by decide)))), (by rw [show (g_rm7_6 r0 w_r0_reached w_r0_state w_r0_outgoing w_r0_terminated w_r0_transitions w_r0_firstStuck w_r0_secondStuck) = w_r0_firstStuck from by simp only [g_rm7_6, if_pos hc4_2, if_pos hc11_4, if_neg hc18_6, if_neg hc36_14]]; exact (((F_r0_firstStuck.other W21 (Or.inr (slot_ne (Or.inl (hw _ (List.mem_of_getElem? (i := 41) rfl))) (Or.inl (hw _ (List.mem_of_getElem? (i := 56) rfl))) (by decide) (t := .int) (t' := .int) (by decide) (by decide)))).other W22 (Or.inr (slot_ne (Or.inl (hw _ (List.mem_of_getElem? (i := 41) rfl))) (Or.inl (hw _ (List.mem_of_getElem? (i := 58) rfl))) (by decide) (t := .int) (t' := .boolean) (by decide) (by decide)))).other W24 (Or.inr (slot_ne (Or.inl (hw _ (List.mem_of_getElem? (i := 41) rfl))) (Or.inl (hw _ (List.mem_of_getElem? (i := 60) rfl))) (by decide) (t := .int) (t' := .int) (by decide) (by decide))))), (by rw [show (g_rm7_7 r0 w_r0_reached w_r0_state w_r0_outgoing w_r0_terminated w_r0_transitions w_r0_firstStuck w_r0_secondStuck) = w_r0_secondStuck from by simp only [g_rm7_7, if_pos hc4_2, if_pos hc11_4, if_neg hc18_6, if_neg hc36_14]]; exact (((F_r0_secondStuck.other W21 (Or.inr (slot_ne (Or.inl (hw _ (List.mem_of_getElem? (i := 43) rfl))) (Or.inl (hw _ (List.mem_of_getElem? (i := 56) rfl))) (by decide) (t := .int) (t' := .int) (by decide) (by decide)))).other W22 (Or.inr (slot_ne (Or.inl (hw _ (List.mem_of_getElem? (i := 43) rfl))) (Or.inl (hw _ (List.mem_of_getElem? (i := 58) rfl))) (by decide) (t := .int) (t' := .boolean) (by decide) (by decide)))).other W24 (Or.inr (slot_ne (Or.inl (hw _ (List.mem_of_getElem? (i := 43) rfl))) (Or.inl (hw _ (List.mem_of_getElem? (i := 60) rfl))) (by decide) (t := .int) (t' := .int) (by decide) (by decide)))))⟩)
    · skip
      refine Goes.go (fun _ kst => XS.ifYes X3.here hx rfl (pc0 := 11) (pc' := 47) rfl (hb hby d7_11) rfl ((if0 _ _).trans (feq hc11_4).2) (by decide) (by decide) kst) ?_
      show Goes p e below s _ _ _ (T3.setTop (mkF m 47 #[.val (.ref r0)] []))
      refine Goes.go (fun _ kst => XS.aloadN X3.here hx rfl (hb hby d7_47) rfl rfl  kst) ?_
      show Goes p e below s _ _ _ (T3.setTop (mkF m 48 #[.val (.ref r0)] [(.ref r0)]))
      refine Goes.go (fun _ kst => XS.iconst X3.here hx rfl (hb hby d7_48) kst) ?_
      show Goes p e below s _ _ _ (T3.setTop (mkF m 49 #[.val (.ref r0)] [(.int (0 : Int32)), (.ref r0)]))
      obtain ⟨T25, h25, X25, e25, W25, st25⟩ := putF X3 hx hZ hown (host := "") (Or.inl (hw _ (List.mem_of_getElem? (i := 55) rfl))) Via.refl e3 F_r0_outgoing E_r0 (Or.inl (hw _ (List.mem_of_getElem? (i := 56) rfl))) (hw _ (List.mem_of_getElem? (i := 1) rfl)) (ty := .int) (by decide) rfl rfl (g := (mkF m 49 #[.val (.ref r0)] [(.int (0 : Int32)), (.ref r0)])) rfl rfl (hb hby d7_49)
      have Fw25 := F_r0_outgoing.same W25
      have N25 := Fr.snoc X25 N0 g_r0
      have Z25 := Nat.le_trans Z0 (Keep.of_wr W25).1
      have K25 := Keep.wr K0 W25 (Or.inl (List.mem_of_getElem? (i := 0) rfl))
      refine Goes.go st25 ?_
      show Goes p e below s _ _ _ (T25.setTop (mkF m 52 #[.val (.ref r0)] []))
      refine Goes.go (fun _ kst => XS.aloadN X25.here hx rfl (hb hby d7_52) rfl rfl  kst) ?_
      show Goes p e below s _ _ _ (T25.setTop (mkF m 53 #[.val (.ref r0)] [(.ref r0)]))
      refine Goes.go (fun _ kst => XS.iconst X25.here hx rfl (hb hby d7_53) kst) ?_
      show Goes p e below s _ _ _ (T25.setTop (mkF m 54 #[.val (.ref r0)] [(.int (0 : Int32)), (.ref r0)]))
      obtain ⟨T26, h26, X26, e26, W26, st26⟩ := putFN X25 hx hZ hown (hw _ (List.mem_of_getElem? (i := 57) rfl)) Via.refl e25 (F_r0_terminated.other W25 (Or.inr (slot_ne (Or.inl (hw _ (List.mem_of_getElem? (i := 58) rfl))) (Or.inl (hw _ (List.mem_of_getElem? (i := 56) rfl))) (by decide) (t := .boolean) (t' := .int) (by decide) (by decide)))) (E_r0.wr W25) (Or.inl (hw _ (List.mem_of_getElem? (i := 58) rfl))) (hw _ (List.mem_of_getElem? (i := 1) rfl)) (ty := .boolean) (v' := (.int (nar .boolean (0 : Int32)))) (by decide) rfl (fits_nar_bool _) (g := (mkF m 54 #[.val (.ref r0)] [(.int (0 : Int32)), (.ref r0)])) rfl rfl (hb hby d7_54)
      have Fw26 := (F_r0_terminated.other W25 (Or.inr (slot_ne (Or.inl (hw _ (List.mem_of_getElem? (i := 58) rfl))) (Or.inl (hw _ (List.mem_of_getElem? (i := 56) rfl))) (by decide) (t := .boolean) (t' := .int) (by decide) (by decide)))).same W26
      have N26 := Fr.snoc X26 N25 g_r0
      have Z26 := Nat.le_trans Z25 (Keep.of_wr W26).1
      have K26 := Keep.wr K25 W26 (Or.inl (List.mem_of_getElem? (i := 0) rfl))
      refine Goes.go st26 ?_
      show Goes p e below s _ _ _ (T26.setTop (mkF m 57 #[.val (.ref r0)] []))
      refine Goes.go (fun _ kst => XS.aloadN X26.here hx rfl (hb hby d7_57) rfl rfl  kst) ?_
      show Goes p e below s _ _ _ (T26.setTop (mkF m 58 #[.val (.ref r0)] [(.ref r0)]))
      refine Goes.go (fun _ kst => XS.dup X26.here hx rfl (hb hby d7_58) rfl rfl kst) ?_
      show Goes p e below s _ _ _ (T26.setTop (mkF m 59 #[.val (.ref r0)] [(.ref r0), (.ref r0)]))
      obtain ⟨T27, X27, e27, st27⟩ := getF X26 hx hZ hown (host := "") (Or.inl (hw _ (List.mem_of_getElem? (i := 59) rfl))) Via.refl e26 ((F_r0_state.other W25 (Or.inr (slot_ne (Or.inl (hw _ (List.mem_of_getElem? (i := 60) rfl))) (Or.inl (hw _ (List.mem_of_getElem? (i := 56) rfl))) (by decide) (t := .int) (t' := .int) (by decide) (by decide)))).other W26 (Or.inr (slot_ne (Or.inl (hw _ (List.mem_of_getElem? (i := 60) rfl))) (Or.inl (hw _ (List.mem_of_getElem? (i := 58) rfl))) (by decide) (t := .int) (t' := .boolean) (by decide) (by decide)))) (g := (mkF m 59 #[.val (.ref r0)] [(.ref r0), (.ref r0)])) rfl rfl (hb hby d7_59)
      refine Goes.go st27 ?_
      show Goes p e below s _ _ _ (T27.setTop (mkF m 62 #[.val (.ref r0)] [(.int w_r0_state), (.ref r0)]))
      refine Goes.go (fun _ kst => XS.iconst X27.here hx rfl (hb hby d7_62) kst) ?_
      show Goes p e below s _ _ _ (T27.setTop (mkF m 63 #[.val (.ref r0)] [(.int (1 : Int32)), (.int w_r0_state), (.ref r0)]))
      refine Goes.go (fun _ kst => XS.iadd X27.here hx rfl (hb hby d7_63) rfl kst) ?_
      show Goes p e below s _ _ _ (T27.setTop (mkF m 64 #[.val (.ref r0)] [(.int (w_r0_state + (1 : Int32))), (.ref r0)]))
      obtain ⟨T28, h28, X28, e28, W28, st28⟩ := putF X27 hx hZ hown (host := "") (Or.inl (hw _ (List.mem_of_getElem? (i := 59) rfl))) Via.refl e27 ((F_r0_state.other W25 (Or.inr (slot_ne (Or.inl (hw _ (List.mem_of_getElem? (i := 60) rfl))) (Or.inl (hw _ (List.mem_of_getElem? (i := 56) rfl))) (by decide) (t := .int) (t' := .int) (by decide) (by decide)))).other W26 (Or.inr (slot_ne (Or.inl (hw _ (List.mem_of_getElem? (i := 60) rfl))) (Or.inl (hw _ (List.mem_of_getElem? (i := 58) rfl))) (by decide) (t := .int) (t' := .boolean) (by decide) (by decide)))) ((E_r0.wr W25).wr W26) (Or.inl (hw _ (List.mem_of_getElem? (i := 60) rfl))) (hw _ (List.mem_of_getElem? (i := 1) rfl)) (ty := .int) (by decide) rfl rfl (g := (mkF m 64 #[.val (.ref r0)] [(.int (w_r0_state + (1 : Int32))), (.ref r0)])) rfl rfl (hb hby d7_64)
      have Fw28 := ((F_r0_state.other W25 (Or.inr (slot_ne (Or.inl (hw _ (List.mem_of_getElem? (i := 60) rfl))) (Or.inl (hw _ (List.mem_of_getElem? (i := 56) rfl))) (by decide) (t := .int) (t' := .int) (by decide) (by decide)))).other W26 (Or.inr (slot_ne (Or.inl (hw _ (List.mem_of_getElem? (i := 60) rfl))) (Or.inl (hw _ (List.mem_of_getElem? (i := 58) rfl))) (by decide) (t := .int) (t' := .boolean) (by decide) (by decide)))).same W28
      have N28 := Fr.snoc X28 N26 g_r0
      have Z28 := Nat.le_trans Z26 (Keep.of_wr W28).1
      have K28 := Keep.wr K26 W28 (Or.inl (List.mem_of_getElem? (i := 0) rfl))
      refine Goes.go st28 ?_
      show Goes p e below s _ _ _ (T28.setTop (mkF m 67 #[.val (.ref r0)] []))
      refine Goes.ret0 X28 hx hlk Bd.returns (hb hby d7_67) ?_ (by decide) (by decide)
      exact (show Q_rm7 Z r0 w_r0_reached w_r0_state w_r0_outgoing w_r0_terminated w_r0_transitions w_r0_firstStuck w_r0_secondStuck h0 n0 _ T28.heap _ by rw [e28]; exact ⟨rfl, N28, K28, (((E_r0.wr W25).wr W26).wr W28), (((F_r0_reached.other W25 (Or.inr (slot_ne (Or.inl (hw _ (List.mem_of_getElem? (i := 39) rfl))) (Or.inl (hw _ (List.mem_of_getElem? (i := 56) rfl))) (by decide) (t := .int) (t' := .int) (by decide) (by decide)))).other W26 (Or.inr (slot_ne (Or.inl (hw _ (List.mem_of_getElem? (i := 39) rfl))) (Or.inl (hw _ (List.mem_of_getElem? (i := 58) rfl))) (by decide) (t := .int) (t' := .boolean) (by decide) (by decide)))).other W28 (Or.inr (slot_ne (Or.inl (hw _ (List.mem_of_getElem? (i := 39) rfl))) (Or.inl (hw _ (List.mem_of_getElem? (i := 60) rfl))) (by decide) (t := .int) (t' := .int) (by decide) (by decide)))), Fw28, ((Fw25.other W26 (Or.inr (slot_ne (Or.inl (hw _ (List.mem_of_getElem? (i := 56) rfl))) (Or.inl (hw _ (List.mem_of_getElem? (i := 58) rfl))) (by decide) (t := .int) (t' := .boolean) (by decide) (by decide)))).other W28 (Or.inr (slot_ne (Or.inl (hw _ (List.mem_of_getElem? (i := 56) rfl))) (Or.inl (hw _ (List.mem_of_getElem? (i := 60) rfl))) (by decide) (t := .int) (t' := .int) (by decide) (by decide)))), (Fw26.other W28 (Or.inr (slot_ne (Or.inl (hw _ (List.mem_of_getElem? (i := 58) rfl))) (Or.inl (hw _ (List.mem_of_getElem? (i := 60) rfl))) (by decide) (t := .boolean) (t' := .int) (by decide) (by decide)))), (((F_r0_transitions.other W25 (Or.inr (slot_ne (Or.inl (hw _ (List.mem_of_getElem? (i := 77) rfl))) (Or.inl (hw _ (List.mem_of_getElem? (i := 56) rfl))) (by decide) (t := .long) (t' := .int) (by decide) (by decide)))).other W26 (Or.inr (slot_ne (Or.inl (hw _ (List.mem_of_getElem? (i := 77) rfl))) (Or.inl (hw _ (List.mem_of_getElem? (i := 58) rfl))) (by decide) (t := .long) (t' := .boolean) (by decide) (by decide)))).other W28 (Or.inr (slot_ne (Or.inl (hw _ (List.mem_of_getElem? (i := 77) rfl))) (Or.inl (hw _ (List.mem_of_getElem? (i := 60) rfl))) (by decide) (t := .long) (t' := .int) (by decide) (by decide)))), (by rw [show (g_rm7_6 r0 w_r0_reached w_r0_state w_r0_outgoing w_r0_terminated w_r0_transitions w_r0_firstStuck w_r0_secondStuck) = w_r0_firstStuck from by simp only [g_rm7_6, if_pos hc4_2, if_neg hc11_4]]; exact (((F_r0_firstStuck.other W25 (Or.inr (slot_ne (Or.inl (hw _ (List.mem_of_getElem? (i := 41) rfl))) (Or.inl (hw _ (List.mem_of_getElem? (i := 56) rfl))) (by decide) (t := .int) (t' := .int) (by decide) (by decide)))).other W26 (Or.inr (slot_ne (Or.inl (hw _ (List.mem_of_getElem? (i := 41) rfl))) (Or.inl (hw _ (List.mem_of_getElem? (i := 58) rfl))) (by decide) (t := .int) (t' := .boolean) (by decide) (by decide)))).other W28 (Or.inr (slot_ne (Or.inl (hw _ (List.mem_of_getElem? (i := 41) rfl))) (Or.inl (hw _ (List.mem_of_getElem? (i := 60) rfl))) (by decide) (t := .int) (t' := .int) (by decide) (by decide))))), (by rw [show (g_rm7_7 r0 w_r0_reached w_r0_state w_r0_outgoing w_r0_terminated w_r0_transitions w_r0_firstStuck w_r0_secondStuck) = w_r0_secondStuck from by simp only [g_rm7_7, if_pos hc4_2, if_neg hc11_4]]; exact (((F_r0_secondStuck.other W25 (Or.inr (slot_ne (Or.inl (hw _ (List.mem_of_getElem? (i := 43) rfl))) (Or.inl (hw _ (List.mem_of_getElem? (i := 56) rfl))) (by decide) (t := .int) (t' := .int) (by decide) (by decide)))).other W26 (Or.inr (slot_ne (Or.inl (hw _ (List.mem_of_getElem? (i := 43) rfl))) (Or.inl (hw _ (List.mem_of_getElem? (i := 58) rfl))) (by decide) (t := .int) (t' := .boolean) (by decide) (by decide)))).other W28 (Or.inr (slot_ne (Or.inl (hw _ (List.mem_of_getElem? (i := 43) rfl))) (Or.inl (hw _ (List.mem_of_getElem? (i := 60) rfl))) (by decide) (t := .int) (t' := .int) (by decide) (by decide)))))⟩)
  · skip
    refine Goes.go (fun _ kst => XS.ifYes X1.here hx rfl (pc0 := 4) (pc' := 47) rfl (hb hby d7_4) rfl ((if0 _ _).trans (feq hc4_2).2) (by decide) (by decide) kst) ?_
    show Goes p e below s _ _ _ (T1.setTop (mkF m 47 #[.val (.ref r0)] []))
    refine Goes.go (fun _ kst => XS.aloadN X1.here hx rfl (hb hby d7_47) rfl rfl  kst) ?_
    show Goes p e below s _ _ _ (T1.setTop (mkF m 48 #[.val (.ref r0)] [(.ref r0)]))
    refine Goes.go (fun _ kst => XS.iconst X1.here hx rfl (hb hby d7_48) kst) ?_
    show Goes p e below s _ _ _ (T1.setTop (mkF m 49 #[.val (.ref r0)] [(.int (0 : Int32)), (.ref r0)]))
    obtain ⟨T29, h29, X29, e29, W29, st29⟩ := putF X1 hx hZ hown (host := "") (Or.inl (hw _ (List.mem_of_getElem? (i := 55) rfl))) Via.refl e1 F_r0_outgoing E_r0 (Or.inl (hw _ (List.mem_of_getElem? (i := 56) rfl))) (hw _ (List.mem_of_getElem? (i := 1) rfl)) (ty := .int) (by decide) rfl rfl (g := (mkF m 49 #[.val (.ref r0)] [(.int (0 : Int32)), (.ref r0)])) rfl rfl (hb hby d7_49)
    have Fw29 := F_r0_outgoing.same W29
    have N29 := Fr.snoc X29 N0 g_r0
    have Z29 := Nat.le_trans Z0 (Keep.of_wr W29).1
    have K29 := Keep.wr K0 W29 (Or.inl (List.mem_of_getElem? (i := 0) rfl))
    refine Goes.go st29 ?_
    show Goes p e below s _ _ _ (T29.setTop (mkF m 52 #[.val (.ref r0)] []))
    refine Goes.go (fun _ kst => XS.aloadN X29.here hx rfl (hb hby d7_52) rfl rfl  kst) ?_
    show Goes p e below s _ _ _ (T29.setTop (mkF m 53 #[.val (.ref r0)] [(.ref r0)]))
    refine Goes.go (fun _ kst => XS.iconst X29.here hx rfl (hb hby d7_53) kst) ?_
    show Goes p e below s _ _ _ (T29.setTop (mkF m 54 #[.val (.ref r0)] [(.int (0 : Int32)), (.ref r0)]))
    obtain ⟨T30, h30, X30, e30, W30, st30⟩ := putFN X29 hx hZ hown (hw _ (List.mem_of_getElem? (i := 57) rfl)) Via.refl e29 (F_r0_terminated.other W29 (Or.inr (slot_ne (Or.inl (hw _ (List.mem_of_getElem? (i := 58) rfl))) (Or.inl (hw _ (List.mem_of_getElem? (i := 56) rfl))) (by decide) (t := .boolean) (t' := .int) (by decide) (by decide)))) (E_r0.wr W29) (Or.inl (hw _ (List.mem_of_getElem? (i := 58) rfl))) (hw _ (List.mem_of_getElem? (i := 1) rfl)) (ty := .boolean) (v' := (.int (nar .boolean (0 : Int32)))) (by decide) rfl (fits_nar_bool _) (g := (mkF m 54 #[.val (.ref r0)] [(.int (0 : Int32)), (.ref r0)])) rfl rfl (hb hby d7_54)
    have Fw30 := (F_r0_terminated.other W29 (Or.inr (slot_ne (Or.inl (hw _ (List.mem_of_getElem? (i := 58) rfl))) (Or.inl (hw _ (List.mem_of_getElem? (i := 56) rfl))) (by decide) (t := .boolean) (t' := .int) (by decide) (by decide)))).same W30
    have N30 := Fr.snoc X30 N29 g_r0
    have Z30 := Nat.le_trans Z29 (Keep.of_wr W30).1
    have K30 := Keep.wr K29 W30 (Or.inl (List.mem_of_getElem? (i := 0) rfl))
    refine Goes.go st30 ?_
    show Goes p e below s _ _ _ (T30.setTop (mkF m 57 #[.val (.ref r0)] []))
    refine Goes.go (fun _ kst => XS.aloadN X30.here hx rfl (hb hby d7_57) rfl rfl  kst) ?_
    show Goes p e below s _ _ _ (T30.setTop (mkF m 58 #[.val (.ref r0)] [(.ref r0)]))
    refine Goes.go (fun _ kst => XS.dup X30.here hx rfl (hb hby d7_58) rfl rfl kst) ?_
    show Goes p e below s _ _ _ (T30.setTop (mkF m 59 #[.val (.ref r0)] [(.ref r0), (.ref r0)]))
    obtain ⟨T31, X31, e31, st31⟩ := getF X30 hx hZ hown (host := "") (Or.inl (hw _ (List.mem_of_getElem? (i := 59) rfl))) Via.refl e30 ((F_r0_state.other W29 (Or.inr (slot_ne (Or.inl (hw _ (List.mem_of_getElem? (i := 60) rfl))) (Or.inl (hw _ (List.mem_of_getElem? (i := 56) rfl))) (by decide) (t := .int) (t' := .int) (by decide) (by decide)))).other W30 (Or.inr (slot_ne (Or.inl (hw _ (List.mem_of_getElem? (i := 60) rfl))) (Or.inl (hw _ (List.mem_of_getElem? (i := 58) rfl))) (by decide) (t := .int) (t' := .boolean) (by decide) (by decide)))) (g := (mkF m 59 #[.val (.ref r0)] [(.ref r0), (.ref r0)])) rfl rfl (hb hby d7_59)
    refine Goes.go st31 ?_
    show Goes p e below s _ _ _ (T31.setTop (mkF m 62 #[.val (.ref r0)] [(.int w_r0_state), (.ref r0)]))
    refine Goes.go (fun _ kst => XS.iconst X31.here hx rfl (hb hby d7_62) kst) ?_
    show Goes p e below s _ _ _ (T31.setTop (mkF m 63 #[.val (.ref r0)] [(.int (1 : Int32)), (.int w_r0_state), (.ref r0)]))
    refine Goes.go (fun _ kst => XS.iadd X31.here hx rfl (hb hby d7_63) rfl kst) ?_
    show Goes p e below s _ _ _ (T31.setTop (mkF m 64 #[.val (.ref r0)] [(.int (w_r0_state + (1 : Int32))), (.ref r0)]))
    obtain ⟨T32, h32, X32, e32, W32, st32⟩ := putF X31 hx hZ hown (host := "") (Or.inl (hw _ (List.mem_of_getElem? (i := 59) rfl))) Via.refl e31 ((F_r0_state.other W29 (Or.inr (slot_ne (Or.inl (hw _ (List.mem_of_getElem? (i := 60) rfl))) (Or.inl (hw _ (List.mem_of_getElem? (i := 56) rfl))) (by decide) (t := .int) (t' := .int) (by decide) (by decide)))).other W30 (Or.inr (slot_ne (Or.inl (hw _ (List.mem_of_getElem? (i := 60) rfl))) (Or.inl (hw _ (List.mem_of_getElem? (i := 58) rfl))) (by decide) (t := .int) (t' := .boolean) (by decide) (by decide)))) ((E_r0.wr W29).wr W30) (Or.inl (hw _ (List.mem_of_getElem? (i := 60) rfl))) (hw _ (List.mem_of_getElem? (i := 1) rfl)) (ty := .int) (by decide) rfl rfl (g := (mkF m 64 #[.val (.ref r0)] [(.int (w_r0_state + (1 : Int32))), (.ref r0)])) rfl rfl (hb hby d7_64)
    have Fw32 := ((F_r0_state.other W29 (Or.inr (slot_ne (Or.inl (hw _ (List.mem_of_getElem? (i := 60) rfl))) (Or.inl (hw _ (List.mem_of_getElem? (i := 56) rfl))) (by decide) (t := .int) (t' := .int) (by decide) (by decide)))).other W30 (Or.inr (slot_ne (Or.inl (hw _ (List.mem_of_getElem? (i := 60) rfl))) (Or.inl (hw _ (List.mem_of_getElem? (i := 58) rfl))) (by decide) (t := .int) (t' := .boolean) (by decide) (by decide)))).same W32
    have N32 := Fr.snoc X32 N30 g_r0
    have Z32 := Nat.le_trans Z30 (Keep.of_wr W32).1
    have K32 := Keep.wr K30 W32 (Or.inl (List.mem_of_getElem? (i := 0) rfl))
    refine Goes.go st32 ?_
    show Goes p e below s _ _ _ (T32.setTop (mkF m 67 #[.val (.ref r0)] []))
    refine Goes.ret0 X32 hx hlk Bd.returns (hb hby d7_67) ?_ (by decide) (by decide)
    exact (show Q_rm7 Z r0 w_r0_reached w_r0_state w_r0_outgoing w_r0_terminated w_r0_transitions w_r0_firstStuck w_r0_secondStuck h0 n0 _ T32.heap _ by rw [e32]; exact ⟨rfl, N32, K32, (((E_r0.wr W29).wr W30).wr W32), (((F_r0_reached.other W29 (Or.inr (slot_ne (Or.inl (hw _ (List.mem_of_getElem? (i := 39) rfl))) (Or.inl (hw _ (List.mem_of_getElem? (i := 56) rfl))) (by decide) (t := .int) (t' := .int) (by decide) (by decide)))).other W30 (Or.inr (slot_ne (Or.inl (hw _ (List.mem_of_getElem? (i := 39) rfl))) (Or.inl (hw _ (List.mem_of_getElem? (i := 58) rfl))) (by decide) (t := .int) (t' := .boolean) (by decide) (by decide)))).other W32 (Or.inr (slot_ne (Or.inl (hw _ (List.mem_of_getElem? (i := 39) rfl))) (Or.inl (hw _ (List.mem_of_getElem? (i := 60) rfl))) (by decide) (t := .int) (t' := .int) (by decide) (by decide)))), Fw32, ((Fw29.other W30 (Or.inr (slot_ne (Or.inl (hw _ (List.mem_of_getElem? (i := 56) rfl))) (Or.inl (hw _ (List.mem_of_getElem? (i := 58) rfl))) (by decide) (t := .int) (t' := .boolean) (by decide) (by decide)))).other W32 (Or.inr (slot_ne (Or.inl (hw _ (List.mem_of_getElem? (i := 56) rfl))) (Or.inl (hw _ (List.mem_of_getElem? (i := 60) rfl))) (by decide) (t := .int) (t' := .int) (by decide) (by decide)))), (Fw30.other W32 (Or.inr (slot_ne (Or.inl (hw _ (List.mem_of_getElem? (i := 58) rfl))) (Or.inl (hw _ (List.mem_of_getElem? (i := 60) rfl))) (by decide) (t := .boolean) (t' := .int) (by decide) (by decide)))), (((F_r0_transitions.other W29 (Or.inr (slot_ne (Or.inl (hw _ (List.mem_of_getElem? (i := 77) rfl))) (Or.inl (hw _ (List.mem_of_getElem? (i := 56) rfl))) (by decide) (t := .long) (t' := .int) (by decide) (by decide)))).other W30 (Or.inr (slot_ne (Or.inl (hw _ (List.mem_of_getElem? (i := 77) rfl))) (Or.inl (hw _ (List.mem_of_getElem? (i := 58) rfl))) (by decide) (t := .long) (t' := .boolean) (by decide) (by decide)))).other W32 (Or.inr (slot_ne (Or.inl (hw _ (List.mem_of_getElem? (i := 77) rfl))) (Or.inl (hw _ (List.mem_of_getElem? (i := 60) rfl))) (by decide) (t := .long) (t' := .int) (by decide) (by decide)))), (by rw [show (g_rm7_6 r0 w_r0_reached w_r0_state w_r0_outgoing w_r0_terminated w_r0_transitions w_r0_firstStuck w_r0_secondStuck) = w_r0_firstStuck from by simp only [g_rm7_6, if_neg hc4_2]]; exact (((F_r0_firstStuck.other W29 (Or.inr (slot_ne (Or.inl (hw _ (List.mem_of_getElem? (i := 41) rfl))) (Or.inl (hw _ (List.mem_of_getElem? (i := 56) rfl))) (by decide) (t := .int) (t' := .int) (by decide) (by decide)))).other W30 (Or.inr (slot_ne (Or.inl (hw _ (List.mem_of_getElem? (i := 41) rfl))) (Or.inl (hw _ (List.mem_of_getElem? (i := 58) rfl))) (by decide) (t := .int) (t' := .boolean) (by decide) (by decide)))).other W32 (Or.inr (slot_ne (Or.inl (hw _ (List.mem_of_getElem? (i := 41) rfl))) (Or.inl (hw _ (List.mem_of_getElem? (i := 60) rfl))) (by decide) (t := .int) (t' := .int) (by decide) (by decide))))), (by rw [show (g_rm7_7 r0 w_r0_reached w_r0_state w_r0_outgoing w_r0_terminated w_r0_transitions w_r0_firstStuck w_r0_secondStuck) = w_r0_secondStuck from by simp only [g_rm7_7, if_neg hc4_2]]; exact (((F_r0_secondStuck.other W29 (Or.inr (slot_ne (Or.inl (hw _ (List.mem_of_getElem? (i := 43) rfl))) (Or.inl (hw _ (List.mem_of_getElem? (i := 56) rfl))) (by decide) (t := .int) (t' := .int) (by decide) (by decide)))).other W30 (Or.inr (slot_ne (Or.inl (hw _ (List.mem_of_getElem? (i := 43) rfl))) (Or.inl (hw _ (List.mem_of_getElem? (i := 58) rfl))) (by decide) (t := .int) (t' := .boolean) (by decide) (by decide)))).other W32 (Or.inr (slot_ne (Or.inl (hw _ (List.mem_of_getElem? (i := 43) rfl))) (Or.inl (hw _ (List.mem_of_getElem? (i := 60) rfl))) (by decide) (t := .int) (t' := .int) (by decide) (by decide)))))⟩)
theorem d9_0 : decode prog_182_method_4_code 0 = .ok (.aload_n 0, 1) := by decide +kernel
theorem d9_1 : decode prog_182_method_4_code 1 = .ok (.iconst 1, 1) := by decide +kernel
theorem d9_2 : decode prog_182_method_4_code 2 = .ok (.putfield 73, 3) := by decide +kernel
theorem d9_5 : decode prog_182_method_4_code 5 = .ok (.return_, 1) := by decide +kernel
theorem pn_9 : plainName "com/example/surety/surety/Search" = true := by first | (simp [plainName, overriddenIn]; done) | decide +kernel
theorem ef_rm9 (m : MethodId) (x0 : Addr) : entryFrame m #[(.ref x0)] 1 = mkF m 0 #[.val (.ref x0)] [] := by first | (simp [entryFrame, mkF, argsToLocals, Value.category]; done) | rfl
def Q_rm9 (Z : State) (r0 : Addr) (w_r0_reached : Int32) (w_r0_state : Int32) (w_r0_outgoing : Int32) (w_r0_terminated : Int32) (w_r0_transitions : Int64) (w_r0_firstStuck : Int32) (w_r0_secondStuck : Int32) (h0 : Heap) (n0 : Nat) (v : Option Value) (h : Heap) (L : List Loc) : Prop := v = none ∧ Fr n0 L ∧ Keep h0 h [r0] ∧ Exa Z h r0 "com/example/surety/surety/Search" ∧ Fld Z h r0 "com/example/surety/surety/Search" "reached" "I" (.int w_r0_reached) ∧ Fld Z h r0 "com/example/surety/surety/Search" "state" "I" (.int w_r0_state) ∧ Fld Z h r0 "com/example/surety/surety/Search" "outgoing" "I" (.int w_r0_outgoing) ∧ Fld Z h r0 "com/example/surety/surety/Search" "terminated" "Z" (.int (nar .boolean (1 : Int32))) ∧ Fld Z h r0 "com/example/surety/surety/Search" "transitions" "J" (.long w_r0_transitions) ∧ Fld Z h r0 "com/example/surety/surety/Search" "firstStuck" "I" (.int w_r0_firstStuck) ∧ Fld Z h r0 "com/example/surety/surety/Search" "secondStuck" "I" (.int w_r0_secondStuck)
set_option maxRecDepth 65536 in
set_option maxHeartbeats 40000000 in
theorem rm9 (l : Launch) (Z : State) (a0 : Array Value) (hw : ∀ d ∈ tables_1, d.before a0 Z = true) (ws : List Jvm.Cond) (r0 : Addr) (w_r0_reached : Int32) (w_r0_state : Int32) (w_r0_outgoing : Int32) (w_r0_terminated : Int32) (w_r0_transitions : Int64) (w_r0_firstStuck : Int32) (w_r0_secondStuck : Int32) (h0 : Heap) (n0 : Nat) (Z0 : n0 ≤ h0.size) (E_r0 : Exa Z h0 r0 "com/example/surety/surety/Search") (g_r0 : n0 ≤ r0) (F_r0_reached : Fld Z h0 r0 "com/example/surety/surety/Search" "reached" "I" (.int w_r0_reached)) (F_r0_state : Fld Z h0 r0 "com/example/surety/surety/Search" "state" "I" (.int w_r0_state)) (F_r0_outgoing : Fld Z h0 r0 "com/example/surety/surety/Search" "outgoing" "I" (.int w_r0_outgoing)) (F_r0_terminated : Fld Z h0 r0 "com/example/surety/surety/Search" "terminated" "Z" (.int w_r0_terminated)) (F_r0_transitions : Fld Z h0 r0 "com/example/surety/surety/Search" "transitions" "J" (.long w_r0_transitions)) (F_r0_firstStuck : Fld Z h0 r0 "com/example/surety/surety/Search" "firstStuck" "I" (.int w_r0_firstStuck)) (F_r0_secondStuck : Fld Z h0 r0 "com/example/surety/surety/Search" "secondStuck" "I" (.int w_r0_secondStuck)) :
    MetFree l (⟨"com/example/surety/surety/Search", "terminate", "()V"⟩ : MethodName) (head1 (Jvm.Cond.code (⟨"com/example/surety/surety/Search", "terminate", "()V"⟩ : MethodName) prog_182_method_4_code 1 none :: ws) ({ frames := 0, cells := 0, slots := 0, locals := 0 } : Room)) (fun a U => a = #[(.ref r0)] ∧ Z.Warmed39 U.vm ∧ U.heap = h0) (fun _ _ _ _ _ => True) (fun _ U o U' => ∃ v L, o = .returned v ∧ Q_rm9 Z r0 w_r0_reached w_r0_state w_r0_outgoing w_r0_terminated w_r0_transitions w_r0_firstStuck w_r0_secondStuck h0 n0 v U'.heap L ∧ FrameEnd U o U' L ({ frames := 0, cells := 0, slots := 0, locals := 0 } : Room).cells ({ frames := 0, cells := 0, slots := 0, locals := 0 } : Room).slots) := by
  refine MetFree.of_bodySF (plainFor_of_name pn_9) hisR ?_
  intro p e s m args below meth c s₁ Bd hml0 hP hK
  obtain ⟨rfl, hZ, hh⟩ := hP
  have hx := Bd.exec
  have hby := Bd.bytes
  have hml : c.maxLocals = 1 := hml0
  have hown : s.vm.findClass "com/example/surety/surety/Search" = some m.cls := findClass_of_methodNamed Bd.named
  have hnm := (name_of_methodNamed Bd.named Bd.method).1
  have hlk : meth.locks = false := BodyLoose.notSynchronized Bd
  have X0 : Stand p l e ({ frames := 0, cells := 0, slots := 0, locals := 0 } : Room) s m #[(.ref r0)] below meth c s₁ [] 0 0 := Stand.of_body Bd
  have e0 : s₁.heap = h0 := by rw [← hh, Bd.state]; rfl
  have N0 := Fr.nil n0
  have K0 : Keep h0 h0 [r0] := Keep.refl _ _
  show Goes p e below s (Q_rm9 Z r0 w_r0_reached w_r0_state w_r0_outgoing w_r0_terminated w_r0_transitions w_r0_firstStuck w_r0_secondStuck h0 n0) ({ frames := 0, cells := 0, slots := 0, locals := 0 } : Room).cells ({ frames := 0, cells := 0, slots := 0, locals := 0 } : Room).slots (s₁.setTop (entryFrame m #[(.ref r0)] 1))
  rw [ef_rm9]
  show Goes p e below s _ _ _ (s₁.setTop (mkF m 0 #[.val (.ref r0)] []))
  refine Goes.go (fun _ kst => XS.aloadN X0.here hx rfl (hb hby d9_0) rfl rfl  kst) ?_
  show Goes p e below s _ _ _ (s₁.setTop (mkF m 1 #[.val (.ref r0)] [(.ref r0)]))
  refine Goes.go (fun _ kst => XS.iconst X0.here hx rfl (hb hby d9_1) kst) ?_
  show Goes p e below s _ _ _ (s₁.setTop (mkF m 2 #[.val (.ref r0)] [(.int (1 : Int32)), (.ref r0)]))
  obtain ⟨T1, h1, X1, e1, W1, st1⟩ := putFN X0 hx hZ hown (hw _ (List.mem_of_getElem? (i := 57) rfl)) Via.refl e0 F_r0_terminated E_r0 (Or.inl (hw _ (List.mem_of_getElem? (i := 58) rfl))) (hw _ (List.mem_of_getElem? (i := 1) rfl)) (ty := .boolean) (v' := (.int (nar .boolean (1 : Int32)))) (by decide) rfl (fits_nar_bool _) (g := (mkF m 2 #[.val (.ref r0)] [(.int (1 : Int32)), (.ref r0)])) rfl rfl (hb hby d9_2)
  have Fw1 := F_r0_terminated.same W1
  have N1 := Fr.snoc X1 N0 g_r0
  have Z1 := Nat.le_trans Z0 (Keep.of_wr W1).1
  have K1 := Keep.wr K0 W1 (Or.inl (List.mem_of_getElem? (i := 0) rfl))
  refine Goes.go st1 ?_
  show Goes p e below s _ _ _ (T1.setTop (mkF m 5 #[.val (.ref r0)] []))
  refine Goes.ret0 X1 hx hlk Bd.returns (hb hby d9_5) ?_ (by decide) (by decide)
  exact (show Q_rm9 Z r0 w_r0_reached w_r0_state w_r0_outgoing w_r0_terminated w_r0_transitions w_r0_firstStuck w_r0_secondStuck h0 n0 _ T1.heap _ by rw [e1]; exact ⟨rfl, N1, K1, (E_r0.wr W1), (F_r0_reached.other W1 (Or.inr (slot_ne (Or.inl (hw _ (List.mem_of_getElem? (i := 39) rfl))) (Or.inl (hw _ (List.mem_of_getElem? (i := 58) rfl))) (by decide) (t := .int) (t' := .boolean) (by decide) (by decide)))), (F_r0_state.other W1 (Or.inr (slot_ne (Or.inl (hw _ (List.mem_of_getElem? (i := 60) rfl))) (Or.inl (hw _ (List.mem_of_getElem? (i := 58) rfl))) (by decide) (t := .int) (t' := .boolean) (by decide) (by decide)))), (F_r0_outgoing.other W1 (Or.inr (slot_ne (Or.inl (hw _ (List.mem_of_getElem? (i := 56) rfl))) (Or.inl (hw _ (List.mem_of_getElem? (i := 58) rfl))) (by decide) (t := .int) (t' := .boolean) (by decide) (by decide)))), Fw1, (F_r0_transitions.other W1 (Or.inr (slot_ne (Or.inl (hw _ (List.mem_of_getElem? (i := 77) rfl))) (Or.inl (hw _ (List.mem_of_getElem? (i := 58) rfl))) (by decide) (t := .long) (t' := .boolean) (by decide) (by decide)))), (F_r0_firstStuck.other W1 (Or.inr (slot_ne (Or.inl (hw _ (List.mem_of_getElem? (i := 41) rfl))) (Or.inl (hw _ (List.mem_of_getElem? (i := 58) rfl))) (by decide) (t := .int) (t' := .boolean) (by decide) (by decide)))), (F_r0_secondStuck.other W1 (Or.inr (slot_ne (Or.inl (hw _ (List.mem_of_getElem? (i := 43) rfl))) (Or.inl (hw _ (List.mem_of_getElem? (i := 58) rfl))) (by decide) (t := .int) (t' := .boolean) (by decide) (by decide))))⟩)
theorem d10_0 : decode prog_182_method_3_code 0 = .ok (.iload_n 2, 1) := by decide +kernel
theorem d10_1 : decode prog_182_method_3_code 1 = .ok (.aload_n 0, 1) := by decide +kernel
theorem d10_2 : decode prog_182_method_3_code 2 = .ok (.getfield 16, 3) := by decide +kernel
theorem d10_5 : decode prog_182_method_3_code 5 = .ok (.if_icmp .lt 100, 3) := by decide +kernel
theorem d10_105 : decode prog_182_method_3_code 105 = .ok (.aload_n 0, 1) := by decide +kernel
theorem d10_106 : decode prog_182_method_3_code 106 = .ok (.dup, 1) := by decide +kernel
theorem d10_107 : decode prog_182_method_3_code 107 = .ok (.getfield 66, 3) := by decide +kernel
theorem d10_110 : decode prog_182_method_3_code 110 = .ok (.iconst 1, 1) := by decide +kernel
theorem d10_111 : decode prog_182_method_3_code 111 = .ok (.iadd, 1) := by decide +kernel
theorem d10_112 : decode prog_182_method_3_code 112 = .ok (.putfield 66, 3) := by decide +kernel
theorem d10_115 : decode prog_182_method_3_code 115 = .ok (.aload_n 0, 1) := by decide +kernel
theorem d10_116 : decode prog_182_method_3_code 116 = .ok (.dup, 1) := by decide +kernel
theorem d10_117 : decode prog_182_method_3_code 117 = .ok (.getfield 69, 3) := by decide +kernel
theorem d10_120 : decode prog_182_method_3_code 120 = .ok (.lconst 1, 1) := by decide +kernel
theorem d10_121 : decode prog_182_method_3_code 121 = .ok (.ladd, 1) := by decide +kernel
theorem d10_122 : decode prog_182_method_3_code 122 = .ok (.putfield 69, 3) := by decide +kernel
theorem d10_125 : decode prog_182_method_3_code 125 = .ok (.return_, 1) := by decide +kernel
theorem pn_10 : plainName "com/example/surety/surety/Search" = true := by first | (simp [plainName, overriddenIn]; done) | decide +kernel
theorem ef_rm10 (m : MethodId) (x0 : Addr) (x1 : Int32) (x2 : Int32) : entryFrame m #[(.ref x0), (.int x1), (.int x2)] 3 = mkF m 0 #[.val (.ref x0), .val (.int x1), .val (.int x2)] [] := by first | (simp [entryFrame, mkF, argsToLocals, Value.category]; done) | rfl
def Q_rm10 (Z : State) (r0 : Addr) (p1 : Int32) (p2 : Int32) (w_r0_reached : Int32) (w_r0_state : Int32) (w_r0_outgoing : Int32) (w_r0_terminated : Int32) (w_r0_transitions : Int64) (w_r0_firstStuck : Int32) (w_r0_secondStuck : Int32) (h0 : Heap) (n0 : Nat) (v : Option Value) (h : Heap) (L : List Loc) : Prop := v = none ∧ Fr n0 L ∧ Keep h0 h [r0] ∧ Exa Z h r0 "com/example/surety/surety/Search" ∧ Fld Z h r0 "com/example/surety/surety/Search" "reached" "I" (.int w_r0_reached) ∧ Fld Z h r0 "com/example/surety/surety/Search" "state" "I" (.int w_r0_state) ∧ Fld Z h r0 "com/example/surety/surety/Search" "outgoing" "I" (.int (w_r0_outgoing + (1 : Int32))) ∧ Fld Z h r0 "com/example/surety/surety/Search" "terminated" "Z" (.int w_r0_terminated) ∧ Fld Z h r0 "com/example/surety/surety/Search" "transitions" "J" (.long (w_r0_transitions + (1 : Int64))) ∧ Fld Z h r0 "com/example/surety/surety/Search" "firstStuck" "I" (.int w_r0_firstStuck) ∧ Fld Z h r0 "com/example/surety/surety/Search" "secondStuck" "I" (.int w_r0_secondStuck)
set_option maxRecDepth 65536 in
set_option maxHeartbeats 40000000 in
theorem rm10 (l : Launch) (Z : State) (a0 : Array Value) (hw : ∀ d ∈ tables_1, d.before a0 Z = true) (ws : List Jvm.Cond) (r0 : Addr) (p1 : Int32) (p2 : Int32) (w_r0_reached : Int32) (w_r0_state : Int32) (w_r0_outgoing : Int32) (w_r0_terminated : Int32) (w_r0_transitions : Int64) (w_r0_firstStuck : Int32) (w_r0_secondStuck : Int32) (h0 : Heap) (n0 : Nat) (Z0 : n0 ≤ h0.size) (E_r0 : Exa Z h0 r0 "com/example/surety/surety/Search") (g_r0 : n0 ≤ r0) (F_r0_reached : Fld Z h0 r0 "com/example/surety/surety/Search" "reached" "I" (.int w_r0_reached)) (F_r0_state : Fld Z h0 r0 "com/example/surety/surety/Search" "state" "I" (.int w_r0_state)) (F_r0_outgoing : Fld Z h0 r0 "com/example/surety/surety/Search" "outgoing" "I" (.int w_r0_outgoing)) (F_r0_terminated : Fld Z h0 r0 "com/example/surety/surety/Search" "terminated" "Z" (.int w_r0_terminated)) (F_r0_transitions : Fld Z h0 r0 "com/example/surety/surety/Search" "transitions" "J" (.long w_r0_transitions)) (F_r0_firstStuck : Fld Z h0 r0 "com/example/surety/surety/Search" "firstStuck" "I" (.int w_r0_firstStuck)) (F_r0_secondStuck : Fld Z h0 r0 "com/example/surety/surety/Search" "secondStuck" "I" (.int w_r0_secondStuck)) (h1r : p2 < w_r0_reached) :
    MetFree l (⟨"com/example/surety/surety/Search", "add", "(II)V"⟩ : MethodName) (head1 (Jvm.Cond.code (⟨"com/example/surety/surety/Search", "add", "(II)V"⟩ : MethodName) prog_182_method_3_code 3 none :: ws) ({ frames := 0, cells := 0, slots := 0, locals := 0 } : Room)) (fun a U => a = #[(.ref r0), (.int p1), (.int p2)] ∧ Z.Warmed39 U.vm ∧ U.heap = h0) (fun _ _ _ _ _ => True) (fun _ U o U' => ∃ v L, o = .returned v ∧ Q_rm10 Z r0 p1 p2 w_r0_reached w_r0_state w_r0_outgoing w_r0_terminated w_r0_transitions w_r0_firstStuck w_r0_secondStuck h0 n0 v U'.heap L ∧ FrameEnd U o U' L ({ frames := 0, cells := 0, slots := 0, locals := 0 } : Room).cells ({ frames := 0, cells := 0, slots := 0, locals := 0 } : Room).slots) := by
  refine MetFree.of_bodySF (plainFor_of_name pn_10) hisR ?_
  intro p e s m args below meth c s₁ Bd hml0 hP hK
  obtain ⟨rfl, hZ, hh⟩ := hP
  have hx := Bd.exec
  have hby := Bd.bytes
  have hml : c.maxLocals = 3 := hml0
  have hown : s.vm.findClass "com/example/surety/surety/Search" = some m.cls := findClass_of_methodNamed Bd.named
  have hnm := (name_of_methodNamed Bd.named Bd.method).1
  have hlk : meth.locks = false := BodyLoose.notSynchronized Bd
  have X0 : Stand p l e ({ frames := 0, cells := 0, slots := 0, locals := 0 } : Room) s m #[(.ref r0), (.int p1), (.int p2)] below meth c s₁ [] 0 0 := Stand.of_body Bd
  have e0 : s₁.heap = h0 := by rw [← hh, Bd.state]; rfl
  have N0 := Fr.nil n0
  have K0 : Keep h0 h0 [r0] := Keep.refl _ _
  show Goes p e below s (Q_rm10 Z r0 p1 p2 w_r0_reached w_r0_state w_r0_outgoing w_r0_terminated w_r0_transitions w_r0_firstStuck w_r0_secondStuck h0 n0) ({ frames := 0, cells := 0, slots := 0, locals := 0 } : Room).cells ({ frames := 0, cells := 0, slots := 0, locals := 0 } : Room).slots (s₁.setTop (entryFrame m #[(.ref r0), (.int p1), (.int p2)] 3))
  rw [ef_rm10]
  show Goes p e below s _ _ _ (s₁.setTop (mkF m 0 #[.val (.ref r0), .val (.int p1), .val (.int p2)] []))
  refine Goes.go (fun _ kst => XS.iloadN X0.here hx rfl (hb hby d10_0) rfl  kst) ?_
  show Goes p e below s _ _ _ (s₁.setTop (mkF m 1 #[.val (.ref r0), .val (.int p1), .val (.int p2)] [(.int p2)]))
  refine Goes.go (fun _ kst => XS.aloadN X0.here hx rfl (hb hby d10_1) rfl rfl  kst) ?_
  show Goes p e below s _ _ _ (s₁.setTop (mkF m 2 #[.val (.ref r0), .val (.int p1), .val (.int p2)] [(.ref r0), (.int p2)]))
  obtain ⟨T1, X1, e1, st1⟩ := getF X0 hx hZ hown (host := "") (Or.inl (hw _ (List.mem_of_getElem? (i := 38) rfl))) Via.refl e0 F_r0_reached (g := (mkF m 2 #[.val (.ref r0), .val (.int p1), .val (.int p2)] [(.ref r0), (.int p2)])) rfl rfl (hb hby d10_2)
  refine Goes.go st1 ?_
  show Goes p e below s _ _ _ (T1.setTop (mkF m 5 #[.val (.ref r0), .val (.int p1), .val (.int p2)] [(.int w_r0_reached), (.int p2)]))
  have hc5_2 : p2 < w_r0_reached := h1r
  refine Goes.go (fun _ kst => XS.icmpYes X1.here hx rfl (pc0 := 5) (pc' := 105) rfl (hb hby d10_5) rfl (tlt hc5_2).1 (by decide) (by decide) kst) ?_
  show Goes p e below s _ _ _ (T1.setTop (mkF m 105 #[.val (.ref r0), .val (.int p1), .val (.int p2)] []))
  refine Goes.go (fun _ kst => XS.aloadN X1.here hx rfl (hb hby d10_105) rfl rfl  kst) ?_
  show Goes p e below s _ _ _ (T1.setTop (mkF m 106 #[.val (.ref r0), .val (.int p1), .val (.int p2)] [(.ref r0)]))
  refine Goes.go (fun _ kst => XS.dup X1.here hx rfl (hb hby d10_106) rfl rfl kst) ?_
  show Goes p e below s _ _ _ (T1.setTop (mkF m 107 #[.val (.ref r0), .val (.int p1), .val (.int p2)] [(.ref r0), (.ref r0)]))
  obtain ⟨T3, X3, e3, st3⟩ := getF X1 hx hZ hown (host := "") (Or.inl (hw _ (List.mem_of_getElem? (i := 55) rfl))) Via.refl e1 F_r0_outgoing (g := (mkF m 107 #[.val (.ref r0), .val (.int p1), .val (.int p2)] [(.ref r0), (.ref r0)])) rfl rfl (hb hby d10_107)
  refine Goes.go st3 ?_
  show Goes p e below s _ _ _ (T3.setTop (mkF m 110 #[.val (.ref r0), .val (.int p1), .val (.int p2)] [(.int w_r0_outgoing), (.ref r0)]))
  refine Goes.go (fun _ kst => XS.iconst X3.here hx rfl (hb hby d10_110) kst) ?_
  show Goes p e below s _ _ _ (T3.setTop (mkF m 111 #[.val (.ref r0), .val (.int p1), .val (.int p2)] [(.int (1 : Int32)), (.int w_r0_outgoing), (.ref r0)]))
  refine Goes.go (fun _ kst => XS.iadd X3.here hx rfl (hb hby d10_111) rfl kst) ?_
  show Goes p e below s _ _ _ (T3.setTop (mkF m 112 #[.val (.ref r0), .val (.int p1), .val (.int p2)] [(.int (w_r0_outgoing + (1 : Int32))), (.ref r0)]))
  obtain ⟨T4, h4, X4, e4, W4, st4⟩ := putF X3 hx hZ hown (host := "") (Or.inl (hw _ (List.mem_of_getElem? (i := 55) rfl))) Via.refl e3 F_r0_outgoing E_r0 (Or.inl (hw _ (List.mem_of_getElem? (i := 56) rfl))) (hw _ (List.mem_of_getElem? (i := 1) rfl)) (ty := .int) (by decide) rfl rfl (g := (mkF m 112 #[.val (.ref r0), .val (.int p1), .val (.int p2)] [(.int (w_r0_outgoing + (1 : Int32))), (.ref r0)])) rfl rfl (hb hby d10_112)
  have Fw4 := F_r0_outgoing.same W4
  have N4 := Fr.snoc X4 N0 g_r0
  have Z4 := Nat.le_trans Z0 (Keep.of_wr W4).1
  have K4 := Keep.wr K0 W4 (Or.inl (List.mem_of_getElem? (i := 0) rfl))
  refine Goes.go st4 ?_
  show Goes p e below s _ _ _ (T4.setTop (mkF m 115 #[.val (.ref r0), .val (.int p1), .val (.int p2)] []))
  refine Goes.go (fun _ kst => XS.aloadN X4.here hx rfl (hb hby d10_115) rfl rfl  kst) ?_
  show Goes p e below s _ _ _ (T4.setTop (mkF m 116 #[.val (.ref r0), .val (.int p1), .val (.int p2)] [(.ref r0)]))
  refine Goes.go (fun _ kst => XS.dup X4.here hx rfl (hb hby d10_116) rfl rfl kst) ?_
  show Goes p e below s _ _ _ (T4.setTop (mkF m 117 #[.val (.ref r0), .val (.int p1), .val (.int p2)] [(.ref r0), (.ref r0)]))
  obtain ⟨T5, X5, e5, st5⟩ := getF X4 hx hZ hown (host := "") (Or.inl (hw _ (List.mem_of_getElem? (i := 76) rfl))) Via.refl e4 (F_r0_transitions.other W4 (Or.inr (slot_ne (Or.inl (hw _ (List.mem_of_getElem? (i := 77) rfl))) (Or.inl (hw _ (List.mem_of_getElem? (i := 56) rfl))) (by decide) (t := .long) (t' := .int) (by decide) (by decide)))) (g := (mkF m 117 #[.val (.ref r0), .val (.int p1), .val (.int p2)] [(.ref r0), (.ref r0)])) rfl rfl (hb hby d10_117)
  refine Goes.go st5 ?_
  show Goes p e below s _ _ _ (T5.setTop (mkF m 120 #[.val (.ref r0), .val (.int p1), .val (.int p2)] [(.long w_r0_transitions), (.ref r0)]))
  refine Goes.go (fun _ kst => XS.lconst X5.here hx rfl (hb hby d10_120) kst) ?_
  show Goes p e below s _ _ _ (T5.setTop (mkF m 121 #[.val (.ref r0), .val (.int p1), .val (.int p2)] [(.long (1 : Int64)), (.long w_r0_transitions), (.ref r0)]))
  refine Goes.go (fun _ kst => XS.ladd X5.here hx rfl (hb hby d10_121) rfl kst) ?_
  show Goes p e below s _ _ _ (T5.setTop (mkF m 122 #[.val (.ref r0), .val (.int p1), .val (.int p2)] [(.long (w_r0_transitions + (1 : Int64))), (.ref r0)]))
  obtain ⟨T6, h6, X6, e6, W6, st6⟩ := putF X5 hx hZ hown (host := "") (Or.inl (hw _ (List.mem_of_getElem? (i := 76) rfl))) Via.refl e5 (F_r0_transitions.other W4 (Or.inr (slot_ne (Or.inl (hw _ (List.mem_of_getElem? (i := 77) rfl))) (Or.inl (hw _ (List.mem_of_getElem? (i := 56) rfl))) (by decide) (t := .long) (t' := .int) (by decide) (by decide)))) (E_r0.wr W4) (Or.inl (hw _ (List.mem_of_getElem? (i := 77) rfl))) (hw _ (List.mem_of_getElem? (i := 1) rfl)) (ty := .long) (by decide) rfl rfl (g := (mkF m 122 #[.val (.ref r0), .val (.int p1), .val (.int p2)] [(.long (w_r0_transitions + (1 : Int64))), (.ref r0)])) rfl rfl (hb hby d10_122)
  have Fw6 := (F_r0_transitions.other W4 (Or.inr (slot_ne (Or.inl (hw _ (List.mem_of_getElem? (i := 77) rfl))) (Or.inl (hw _ (List.mem_of_getElem? (i := 56) rfl))) (by decide) (t := .long) (t' := .int) (by decide) (by decide)))).same W6
  have N6 := Fr.snoc X6 N4 g_r0
  have Z6 := Nat.le_trans Z4 (Keep.of_wr W6).1
  have K6 := Keep.wr K4 W6 (Or.inl (List.mem_of_getElem? (i := 0) rfl))
  refine Goes.go st6 ?_
  show Goes p e below s _ _ _ (T6.setTop (mkF m 125 #[.val (.ref r0), .val (.int p1), .val (.int p2)] []))
  refine Goes.ret0 X6 hx hlk Bd.returns (hb hby d10_125) ?_ (by decide) (by decide)
  exact (show Q_rm10 Z r0 p1 p2 w_r0_reached w_r0_state w_r0_outgoing w_r0_terminated w_r0_transitions w_r0_firstStuck w_r0_secondStuck h0 n0 _ T6.heap _ by rw [e6]; exact ⟨rfl, N6, K6, ((E_r0.wr W4).wr W6), ((F_r0_reached.other W4 (Or.inr (slot_ne (Or.inl (hw _ (List.mem_of_getElem? (i := 39) rfl))) (Or.inl (hw _ (List.mem_of_getElem? (i := 56) rfl))) (by decide) (t := .int) (t' := .int) (by decide) (by decide)))).other W6 (Or.inr (slot_ne (Or.inl (hw _ (List.mem_of_getElem? (i := 39) rfl))) (Or.inl (hw _ (List.mem_of_getElem? (i := 77) rfl))) (by decide) (t := .int) (t' := .long) (by decide) (by decide)))), ((F_r0_state.other W4 (Or.inr (slot_ne (Or.inl (hw _ (List.mem_of_getElem? (i := 60) rfl))) (Or.inl (hw _ (List.mem_of_getElem? (i := 56) rfl))) (by decide) (t := .int) (t' := .int) (by decide) (by decide)))).other W6 (Or.inr (slot_ne (Or.inl (hw _ (List.mem_of_getElem? (i := 60) rfl))) (Or.inl (hw _ (List.mem_of_getElem? (i := 77) rfl))) (by decide) (t := .int) (t' := .long) (by decide) (by decide)))), (Fw4.other W6 (Or.inr (slot_ne (Or.inl (hw _ (List.mem_of_getElem? (i := 56) rfl))) (Or.inl (hw _ (List.mem_of_getElem? (i := 77) rfl))) (by decide) (t := .int) (t' := .long) (by decide) (by decide)))), ((F_r0_terminated.other W4 (Or.inr (slot_ne (Or.inl (hw _ (List.mem_of_getElem? (i := 58) rfl))) (Or.inl (hw _ (List.mem_of_getElem? (i := 56) rfl))) (by decide) (t := .boolean) (t' := .int) (by decide) (by decide)))).other W6 (Or.inr (slot_ne (Or.inl (hw _ (List.mem_of_getElem? (i := 58) rfl))) (Or.inl (hw _ (List.mem_of_getElem? (i := 77) rfl))) (by decide) (t := .boolean) (t' := .long) (by decide) (by decide)))), Fw6, ((F_r0_firstStuck.other W4 (Or.inr (slot_ne (Or.inl (hw _ (List.mem_of_getElem? (i := 41) rfl))) (Or.inl (hw _ (List.mem_of_getElem? (i := 56) rfl))) (by decide) (t := .int) (t' := .int) (by decide) (by decide)))).other W6 (Or.inr (slot_ne (Or.inl (hw _ (List.mem_of_getElem? (i := 41) rfl))) (Or.inl (hw _ (List.mem_of_getElem? (i := 77) rfl))) (by decide) (t := .int) (t' := .long) (by decide) (by decide)))), ((F_r0_secondStuck.other W4 (Or.inr (slot_ne (Or.inl (hw _ (List.mem_of_getElem? (i := 43) rfl))) (Or.inl (hw _ (List.mem_of_getElem? (i := 56) rfl))) (by decide) (t := .int) (t' := .int) (by decide) (by decide)))).other W6 (Or.inr (slot_ne (Or.inl (hw _ (List.mem_of_getElem? (i := 43) rfl))) (Or.inl (hw _ (List.mem_of_getElem? (i := 77) rfl))) (by decide) (t := .int) (t' := .long) (by decide) (by decide))))⟩)
theorem d6_0 : decode method_2_code 0 = .ok (.iload_n 1, 1) := by decide +kernel
theorem d6_1 : decode method_2_code 1 = .ok (.iconst 2, 1) := by decide +kernel
theorem d6_2 : decode method_2_code 2 = .ok (.iand, 1) := by decide +kernel
theorem d6_3 : decode method_2_code 3 = .ok (.ifCond .eq 9, 3) := by decide +kernel
theorem d6_6 : decode method_2_code 6 = .ok (.aload_n 0, 1) := by decide +kernel
theorem d6_7 : decode method_2_code 7 = .ok (.iload_n 2, 1) := by decide +kernel
theorem d6_8 : decode method_2_code 8 = .ok (.iconst 0, 1) := by decide +kernel
theorem d6_9 : decode method_2_code 9 = .ok (.invokevirtual 7, 3) := by decide +kernel
theorem d6_12 : decode method_2_code 12 = .ok (.iload_n 1, 1) := by decide +kernel
theorem d6_13 : decode method_2_code 13 = .ok (.iconst 1, 1) := by decide +kernel
theorem d6_14 : decode method_2_code 14 = .ok (.iand, 1) := by decide +kernel
theorem d6_15 : decode method_2_code 15 = .ok (.ifCond .eq 7, 3) := by decide +kernel
theorem d6_18 : decode method_2_code 18 = .ok (.aload_n 0, 1) := by decide +kernel
theorem d6_19 : decode method_2_code 19 = .ok (.invokevirtual 13, 3) := by decide +kernel
theorem d6_22 : decode method_2_code 22 = .ok (.aload_n 0, 1) := by decide +kernel
theorem d6_23 : decode method_2_code 23 = .ok (.invokevirtual 16, 3) := by decide +kernel
theorem d6_26 : decode method_2_code 26 = .ok (.return_, 1) := by decide +kernel
theorem pn_6 : plainName "com/example/surety/surety/SearchEndStatePinLaw" = true := by first | (simp [plainName, overriddenIn]; done) | decide +kernel
theorem ef_rm6 (m : MethodId) (x0 : Addr) (x1 : Int32) (x2 : Int32) : entryFrame m #[(.ref x0), (.int x1), (.int x2)] 3 = mkF m 0 #[.val (.ref x0), .val (.int x1), .val (.int x2)] [] := by first | (simp [entryFrame, mkF, argsToLocals, Value.category]; done) | rfl
def g_rm6_5 (r0 : Addr) (p1 : Int32) (p2 : Int32) (w_r0_reached : Int32) (w_r0_state : Int32) (w_r0_outgoing : Int32) (w_r0_terminated : Int32) (w_r0_transitions : Int64) (w_r0_firstStuck : Int32) (w_r0_secondStuck : Int32) : Int64 := (if (p1 &&& (2 : Int32)) = (0 : Int32) then w_r0_transitions else (w_r0_transitions + (1 : Int64)))
def g_rm6_6 (r0 : Addr) (p1 : Int32) (p2 : Int32) (w_r0_reached : Int32) (w_r0_state : Int32) (w_r0_outgoing : Int32) (w_r0_terminated : Int32) (w_r0_transitions : Int64) (w_r0_firstStuck : Int32) (w_r0_secondStuck : Int32) : Int32 := (if (p1 &&& (2 : Int32)) = (0 : Int32) then (if (p1 &&& (1 : Int32)) = (0 : Int32) then (g_rm7_6 r0 w_r0_reached w_r0_state w_r0_outgoing w_r0_terminated w_r0_transitions w_r0_firstStuck w_r0_secondStuck) else (g_rm7_6 r0 w_r0_reached w_r0_state w_r0_outgoing (nar .boolean (1 : Int32)) w_r0_transitions w_r0_firstStuck w_r0_secondStuck)) else (if (p1 &&& (1 : Int32)) = (0 : Int32) then (g_rm7_6 r0 w_r0_reached w_r0_state (w_r0_outgoing + (1 : Int32)) w_r0_terminated (w_r0_transitions + (1 : Int64)) w_r0_firstStuck w_r0_secondStuck) else (g_rm7_6 r0 w_r0_reached w_r0_state (w_r0_outgoing + (1 : Int32)) (nar .boolean (1 : Int32)) (w_r0_transitions + (1 : Int64)) w_r0_firstStuck w_r0_secondStuck)))
def g_rm6_7 (r0 : Addr) (p1 : Int32) (p2 : Int32) (w_r0_reached : Int32) (w_r0_state : Int32) (w_r0_outgoing : Int32) (w_r0_terminated : Int32) (w_r0_transitions : Int64) (w_r0_firstStuck : Int32) (w_r0_secondStuck : Int32) : Int32 := (if (p1 &&& (2 : Int32)) = (0 : Int32) then (if (p1 &&& (1 : Int32)) = (0 : Int32) then (g_rm7_7 r0 w_r0_reached w_r0_state w_r0_outgoing w_r0_terminated w_r0_transitions w_r0_firstStuck w_r0_secondStuck) else (g_rm7_7 r0 w_r0_reached w_r0_state w_r0_outgoing (nar .boolean (1 : Int32)) w_r0_transitions w_r0_firstStuck w_r0_secondStuck)) else (if (p1 &&& (1 : Int32)) = (0 : Int32) then (g_rm7_7 r0 w_r0_reached w_r0_state (w_r0_outgoing + (1 : Int32)) w_r0_terminated (w_r0_transitions + (1 : Int64)) w_r0_firstStuck w_r0_secondStuck) else (g_rm7_7 r0 w_r0_reached w_r0_state (w_r0_outgoing + (1 : Int32)) (nar .boolean (1 : Int32)) (w_r0_transitions + (1 : Int64)) w_r0_firstStuck w_r0_secondStuck)))
def Q_rm6 (Z : State) (r0 : Addr) (p1 : Int32) (p2 : Int32) (w_r0_reached : Int32) (w_r0_state : Int32) (w_r0_outgoing : Int32) (w_r0_terminated : Int32) (w_r0_transitions : Int64) (w_r0_firstStuck : Int32) (w_r0_secondStuck : Int32) (h0 : Heap) (n0 : Nat) (v : Option Value) (h : Heap) (L : List Loc) : Prop := v = none ∧ Fr n0 L ∧ Keep h0 h [r0] ∧ Exa Z h r0 "com/example/surety/surety/Search" ∧ Fld Z h r0 "com/example/surety/surety/Search" "reached" "I" (.int w_r0_reached) ∧ Fld Z h r0 "com/example/surety/surety/Search" "state" "I" (.int (w_r0_state + (1 : Int32))) ∧ Fld Z h r0 "com/example/surety/surety/Search" "outgoing" "I" (.int (0 : Int32)) ∧ Fld Z h r0 "com/example/surety/surety/Search" "terminated" "Z" (.int (nar .boolean (0 : Int32))) ∧ Fld Z h r0 "com/example/surety/surety/Search" "transitions" "J" (.long (g_rm6_5 r0 p1 p2 w_r0_reached w_r0_state w_r0_outgoing w_r0_terminated w_r0_transitions w_r0_firstStuck w_r0_secondStuck)) ∧ Fld Z h r0 "com/example/surety/surety/Search" "firstStuck" "I" (.int (g_rm6_6 r0 p1 p2 w_r0_reached w_r0_state w_r0_outgoing w_r0_terminated w_r0_transitions w_r0_firstStuck w_r0_secondStuck)) ∧ Fld Z h r0 "com/example/surety/surety/Search" "secondStuck" "I" (.int (g_rm6_7 r0 p1 p2 w_r0_reached w_r0_state w_r0_outgoing w_r0_terminated w_r0_transitions w_r0_firstStuck w_r0_secondStuck))
set_option maxRecDepth 65536 in
set_option maxHeartbeats 40000000 in
theorem rm6 (l : Launch) (Z : State) (a0 : Array Value) (hw : ∀ d ∈ tables_1, d.before a0 Z = true) (ws : List Jvm.Cond) (r0 : Addr) (p1 : Int32) (p2 : Int32) (w_r0_reached : Int32) (w_r0_state : Int32) (w_r0_outgoing : Int32) (w_r0_terminated : Int32) (w_r0_transitions : Int64) (w_r0_firstStuck : Int32) (w_r0_secondStuck : Int32) (h0 : Heap) (n0 : Nat) (Z0 : n0 ≤ h0.size) (E_r0 : Exa Z h0 r0 "com/example/surety/surety/Search") (g_r0 : n0 ≤ r0) (F_r0_reached : Fld Z h0 r0 "com/example/surety/surety/Search" "reached" "I" (.int w_r0_reached)) (F_r0_state : Fld Z h0 r0 "com/example/surety/surety/Search" "state" "I" (.int w_r0_state)) (F_r0_outgoing : Fld Z h0 r0 "com/example/surety/surety/Search" "outgoing" "I" (.int w_r0_outgoing)) (F_r0_terminated : Fld Z h0 r0 "com/example/surety/surety/Search" "terminated" "Z" (.int w_r0_terminated)) (F_r0_transitions : Fld Z h0 r0 "com/example/surety/surety/Search" "transitions" "J" (.long w_r0_transitions)) (F_r0_firstStuck : Fld Z h0 r0 "com/example/surety/surety/Search" "firstStuck" "I" (.int w_r0_firstStuck)) (F_r0_secondStuck : Fld Z h0 r0 "com/example/surety/surety/Search" "secondStuck" "I" (.int w_r0_secondStuck)) (h1r : (0 : Int32) < w_r0_reached) :
    MetFree l (⟨"com/example/surety/surety/SearchEndStatePinLaw", "handState", "(Lcom/example/surety/surety/Search;II)V"⟩ : MethodName) (head1 (Jvm.Cond.code (⟨"com/example/surety/surety/SearchEndStatePinLaw", "handState", "(Lcom/example/surety/surety/Search;II)V"⟩ : MethodName) method_2_code 3 none :: ws) ({ frames := 1, cells := 0, slots := 0, locals := 14 } : Room)) (fun a U => a = #[(.ref r0), (.int p1), (.int p2)] ∧ Z.Warmed39 U.vm ∧ U.heap = h0) (fun _ _ _ _ _ => True) (fun _ U o U' => ∃ v L, o = .returned v ∧ Q_rm6 Z r0 p1 p2 w_r0_reached w_r0_state w_r0_outgoing w_r0_terminated w_r0_transitions w_r0_firstStuck w_r0_secondStuck h0 n0 v U'.heap L ∧ FrameEnd U o U' L ({ frames := 1, cells := 0, slots := 0, locals := 14 } : Room).cells ({ frames := 1, cells := 0, slots := 0, locals := 14 } : Room).slots) := by
  refine MetFree.of_bodySF (plainFor_of_name pn_6) hisR ?_
  intro p e s m args below meth c s₁ Bd hml0 hP hK
  obtain ⟨rfl, hZ, hh⟩ := hP
  have hx := Bd.exec
  have hby := Bd.bytes
  have hml : c.maxLocals = 3 := hml0
  have hown : s.vm.findClass "com/example/surety/surety/SearchEndStatePinLaw" = some m.cls := findClass_of_methodNamed Bd.named
  have hnm := (name_of_methodNamed Bd.named Bd.method).1
  have hlk : meth.locks = false := BodyLoose.notSynchronized Bd
  have X0 : Stand p l e ({ frames := 1, cells := 0, slots := 0, locals := 14 } : Room) s m #[(.ref r0), (.int p1), (.int p2)] below meth c s₁ [] 0 0 := Stand.of_body Bd
  have e0 : s₁.heap = h0 := by rw [← hh, Bd.state]; rfl
  have N0 := Fr.nil n0
  have K0 : Keep h0 h0 [r0] := Keep.refl _ _
  show Goes p e below s (Q_rm6 Z r0 p1 p2 w_r0_reached w_r0_state w_r0_outgoing w_r0_terminated w_r0_transitions w_r0_firstStuck w_r0_secondStuck h0 n0) ({ frames := 1, cells := 0, slots := 0, locals := 14 } : Room).cells ({ frames := 1, cells := 0, slots := 0, locals := 14 } : Room).slots (s₁.setTop (entryFrame m #[(.ref r0), (.int p1), (.int p2)] 3))
  rw [ef_rm6]
  show Goes p e below s _ _ _ (s₁.setTop (mkF m 0 #[.val (.ref r0), .val (.int p1), .val (.int p2)] []))
  refine Goes.go (fun _ kst => XS.iloadN X0.here hx rfl (hb hby d6_0) rfl  kst) ?_
  show Goes p e below s _ _ _ (s₁.setTop (mkF m 1 #[.val (.ref r0), .val (.int p1), .val (.int p2)] [(.int p1)]))
  refine Goes.go (fun _ kst => XS.iconst X0.here hx rfl (hb hby d6_1) kst) ?_
  show Goes p e below s _ _ _ (s₁.setTop (mkF m 2 #[.val (.ref r0), .val (.int p1), .val (.int p2)] [(.int (2 : Int32)), (.int p1)]))
  refine Goes.go (fun _ kst => XS.iand X0.here hx rfl (hb hby d6_2) rfl kst) ?_
  show Goes p e below s _ _ _ (s₁.setTop (mkF m 3 #[.val (.ref r0), .val (.int p1), .val (.int p2)] [(.int (p1 &&& (2 : Int32)))]))
  by_cases hc3_1 : (p1 &&& (2 : Int32)) = (0 : Int32)
  · skip
    refine Goes.go (fun _ kst => XS.ifYes X0.here hx rfl (pc0 := 3) (pc' := 12) rfl (hb hby d6_3) rfl ((if0 _ _).trans (teq hc3_1).1) (by decide) (by decide) kst) ?_
    show Goes p e below s _ _ _ (s₁.setTop (mkF m 12 #[.val (.ref r0), .val (.int p1), .val (.int p2)] []))
    refine Goes.go (fun _ kst => XS.iloadN X0.here hx rfl (hb hby d6_12) rfl  kst) ?_
    show Goes p e below s _ _ _ (s₁.setTop (mkF m 13 #[.val (.ref r0), .val (.int p1), .val (.int p2)] [(.int p1)]))
    refine Goes.go (fun _ kst => XS.iconst X0.here hx rfl (hb hby d6_13) kst) ?_
    show Goes p e below s _ _ _ (s₁.setTop (mkF m 14 #[.val (.ref r0), .val (.int p1), .val (.int p2)] [(.int (1 : Int32)), (.int p1)]))
    refine Goes.go (fun _ kst => XS.iand X0.here hx rfl (hb hby d6_14) rfl kst) ?_
    show Goes p e below s _ _ _ (s₁.setTop (mkF m 15 #[.val (.ref r0), .val (.int p1), .val (.int p2)] [(.int (p1 &&& (1 : Int32)))]))
    by_cases hc15_2 : (p1 &&& (1 : Int32)) = (0 : Int32)
    · skip
      refine Goes.go (fun _ kst => XS.ifYes X0.here hx rfl (pc0 := 15) (pc' := 22) rfl (hb hby d6_15) rfl ((if0 _ _).trans (teq hc15_2).1) (by decide) (by decide) kst) ?_
      show Goes p e below s _ _ _ (s₁.setTop (mkF m 22 #[.val (.ref r0), .val (.int p1), .val (.int p2)] []))
      refine Goes.go (fun _ kst => XS.aloadN X0.here hx rfl (hb hby d6_22) rfl rfl  kst) ?_
      show Goes p e below s _ _ _ (s₁.setTop (mkF m 23 #[.val (.ref r0), .val (.int p1), .val (.int p2)] [(.ref r0)]))
      obtain ⟨cq3, kq3, q3a, q3b, q3c⟩ := isOf hZ e0 E_r0
      obtain ⟨_, _, ⟨T3, L3, k3, n3⟩, -, X3, ⟨Lc3, hQ3, l3, y3, z3⟩, st3⟩ := X0.virtualBack hx (y := (⟨"com/example/surety/surety/Search", "endState", "()V"⟩ : MethodName)) (z := (⟨"com/example/surety/surety/Search", "endState", "()V"⟩ : MethodName)) hown (mvT hZ (hw _ (List.mem_of_getElem? (i := 50) rfl))) (mvT hZ (hw _ (List.mem_of_getElem? (i := 51) rfl))) (notFace_of_selects (args := #[]) (mvT hZ (hw _ (List.mem_of_getElem? (i := 53) rfl)))) (mvT hZ (hw _ (List.mem_of_getElem? (i := 53) rfl))) (mvT hZ (hw _ (List.mem_of_getElem? (i := 52) rfl))) (by decide) (backOf (W := 0) (rm7 l Z a0 hw [] r0 w_r0_reached w_r0_state w_r0_outgoing w_r0_terminated w_r0_transitions w_r0_firstStuck w_r0_secondStuck h0 n0 Z0 E_r0 g_r0 F_r0_reached F_r0_state F_r0_outgoing F_r0_terminated F_r0_transitions F_r0_firstStuck F_r0_secondStuck) hZ (hw _ (List.mem_of_getElem? (i := 54) rfl)) (hw _ (List.mem_of_getElem? (i := 2) rfl)) (by decide) (by decide)) q3a q3c (g := (mkF m 23 #[.val (.ref r0), .val (.int p1), .val (.int p2)] [(.ref r0)])) rfl (by rw [hml]; rfl) (Steps.refl _) (argsL := []) (rest := []) (lenOf pd_0 rfl) rfl (by show 2 * 0 + _ ≤ _; exact Nat.le_of_eq rfl) (hb hby d6_23) (fun _ _ => ⟨rfl, e0, (by decide : 0 + 0 ≤ _), (by decide : 0 + 0 ≤ _)⟩)
      dsimp only [Pt.U, Pt.locs, Pt.cells, Pt.slots] at X3 l3 y3 z3 st3 hQ3
      subst l3 y3 z3
      obtain ⟨h3, e3⟩ : ∃ z, T3.heap = z := ⟨_, rfl⟩
      rw [e3] at hQ3
      obtain ⟨rfl, N3q, Kq3, G3_0, G3_1, G3_2, G3_3, G3_4, G3_5, G3_6, G3_7⟩ := hQ3
      have N3 := Fr.app N0 N3q
      have K3 := Keep.trans K0 Kq3 (allS (Or.inl (List.mem_of_getElem? (i := 0) rfl)) all0)
      have Z3 := Nat.le_trans Z0 Kq3.1
      refine Goes.tr st3 ?_
      show Goes p e below s _ _ _ (T3.setTop (mkF m 26 #[.val (.ref r0), .val (.int p1), .val (.int p2)] []))
      refine Goes.ret0 X3 hx hlk Bd.returns (hb hby d6_26) ?_ (by decide) (by decide)
      exact (show Q_rm6 Z r0 p1 p2 w_r0_reached w_r0_state w_r0_outgoing w_r0_terminated w_r0_transitions w_r0_firstStuck w_r0_secondStuck h0 n0 _ T3.heap _ by rw [e3]; exact ⟨rfl, N3, K3, G3_0, G3_1, G3_2, G3_3, G3_4, (by rw [show (g_rm6_5 r0 p1 p2 w_r0_reached w_r0_state w_r0_outgoing w_r0_terminated w_r0_transitions w_r0_firstStuck w_r0_secondStuck) = w_r0_transitions from by simp only [g_rm6_5, if_pos hc3_1, if_pos hc15_2]]; exact G3_5), (by rw [show (g_rm6_6 r0 p1 p2 w_r0_reached w_r0_state w_r0_outgoing w_r0_terminated w_r0_transitions w_r0_firstStuck w_r0_secondStuck) = (g_rm7_6 r0 w_r0_reached w_r0_state w_r0_outgoing w_r0_terminated w_r0_transitions w_r0_firstStuck w_r0_secondStuck) from by simp only [g_rm6_6, if_pos hc3_1, if_pos hc15_2]]; exact G3_6), (by rw [show (g_rm6_7 r0 p1 p2 w_r0_reached w_r0_state w_r0_outgoing w_r0_terminated w_r0_transitions w_r0_firstStuck w_r0_secondStuck) = (g_rm7_7 r0 w_r0_reached w_r0_state w_r0_outgoing w_r0_terminated w_r0_transitions w_r0_firstStuck w_r0_secondStuck) from by simp only [g_rm6_7, if_pos hc3_1, if_pos hc15_2]]; exact G3_7)⟩)
    · skip
      refine Goes.go (fun _ kst => XS.ifNo X0.here hx rfl (hb hby d6_15) rfl ((if0 _ _).trans (feq hc15_2).1) kst) ?_
      show Goes p e below s _ _ _ (s₁.setTop (mkF m 18 #[.val (.ref r0), .val (.int p1), .val (.int p2)] []))
      refine Goes.go (fun _ kst => XS.aloadN X0.here hx rfl (hb hby d6_18) rfl rfl  kst) ?_
      show Goes p e below s _ _ _ (s₁.setTop (mkF m 19 #[.val (.ref r0), .val (.int p1), .val (.int p2)] [(.ref r0)]))
      obtain ⟨cq4, kq4, q4a, q4b, q4c⟩ := isOf hZ e0 E_r0
      obtain ⟨_, _, ⟨T4, L4, k4, n4⟩, -, X4, ⟨Lc4, hQ4, l4, y4, z4⟩, st4⟩ := X0.virtualBack hx (y := (⟨"com/example/surety/surety/Search", "terminate", "()V"⟩ : MethodName)) (z := (⟨"com/example/surety/surety/Search", "terminate", "()V"⟩ : MethodName)) hown (mvT hZ (hw _ (List.mem_of_getElem? (i := 66) rfl))) (mvT hZ (hw _ (List.mem_of_getElem? (i := 67) rfl))) (notFace_of_selects (args := #[]) (mvT hZ (hw _ (List.mem_of_getElem? (i := 69) rfl)))) (mvT hZ (hw _ (List.mem_of_getElem? (i := 69) rfl))) (mvT hZ (hw _ (List.mem_of_getElem? (i := 68) rfl))) (by decide) (backOf (W := 0) (rm9 l Z a0 hw [] r0 w_r0_reached w_r0_state w_r0_outgoing w_r0_terminated w_r0_transitions w_r0_firstStuck w_r0_secondStuck h0 n0 Z0 E_r0 g_r0 F_r0_reached F_r0_state F_r0_outgoing F_r0_terminated F_r0_transitions F_r0_firstStuck F_r0_secondStuck) hZ (hw _ (List.mem_of_getElem? (i := 70) rfl)) (hw _ (List.mem_of_getElem? (i := 2) rfl)) (by decide) (by decide)) q4a q4c (g := (mkF m 19 #[.val (.ref r0), .val (.int p1), .val (.int p2)] [(.ref r0)])) rfl (by rw [hml]; rfl) (Steps.refl _) (argsL := []) (rest := []) (lenOf pd_0 rfl) rfl (by show 2 * 0 + _ ≤ _; exact Nat.le_of_eq rfl) (hb hby d6_19) (fun _ _ => ⟨rfl, e0, (by decide : 0 + 0 ≤ _), (by decide : 0 + 0 ≤ _)⟩)
      dsimp only [Pt.U, Pt.locs, Pt.cells, Pt.slots] at X4 l4 y4 z4 st4 hQ4
      subst l4 y4 z4
      obtain ⟨h4, e4⟩ : ∃ z, T4.heap = z := ⟨_, rfl⟩
      rw [e4] at hQ4
      obtain ⟨rfl, N4q, Kq4, G4_0, G4_1, G4_2, G4_3, G4_4, G4_5, G4_6, G4_7⟩ := hQ4
      have N4 := Fr.app N0 N4q
      have K4 := Keep.trans K0 Kq4 (allS (Or.inl (List.mem_of_getElem? (i := 0) rfl)) all0)
      have Z4 := Nat.le_trans Z0 Kq4.1
      refine Goes.tr st4 ?_
      show Goes p e below s _ _ _ (T4.setTop (mkF m 22 #[.val (.ref r0), .val (.int p1), .val (.int p2)] []))
      refine Goes.go (fun _ kst => XS.aloadN X4.here hx rfl (hb hby d6_22) rfl rfl  kst) ?_
      show Goes p e below s _ _ _ (T4.setTop (mkF m 23 #[.val (.ref r0), .val (.int p1), .val (.int p2)] [(.ref r0)]))
      obtain ⟨cq5, kq5, q5a, q5b, q5c⟩ := isOf hZ e4 G4_0
      obtain ⟨_, _, ⟨T5, L5, k5, n5⟩, -, X5, ⟨Lc5, hQ5, l5, y5, z5⟩, st5⟩ := X4.virtualBack hx (y := (⟨"com/example/surety/surety/Search", "endState", "()V"⟩ : MethodName)) (z := (⟨"com/example/surety/surety/Search", "endState", "()V"⟩ : MethodName)) hown (mvT hZ (hw _ (List.mem_of_getElem? (i := 50) rfl))) (mvT hZ (hw _ (List.mem_of_getElem? (i := 51) rfl))) (notFace_of_selects (args := #[]) (mvT hZ (hw _ (List.mem_of_getElem? (i := 53) rfl)))) (mvT hZ (hw _ (List.mem_of_getElem? (i := 53) rfl))) (mvT hZ (hw _ (List.mem_of_getElem? (i := 52) rfl))) (by decide) (backOf (W := 0) (rm7 l Z a0 hw [] r0 w_r0_reached w_r0_state w_r0_outgoing (nar .boolean (1 : Int32)) w_r0_transitions w_r0_firstStuck w_r0_secondStuck h4 n0 Z4 G4_0 g_r0 G4_1 G4_2 G4_3 G4_4 G4_5 G4_6 G4_7) hZ (hw _ (List.mem_of_getElem? (i := 54) rfl)) (hw _ (List.mem_of_getElem? (i := 2) rfl)) (by decide) (by decide)) q5a q5c (g := (mkF m 23 #[.val (.ref r0), .val (.int p1), .val (.int p2)] [(.ref r0)])) rfl (by rw [hml]; rfl) (Steps.refl _) (argsL := []) (rest := []) (lenOf pd_0 rfl) rfl (by show 2 * 0 + _ ≤ _; exact Nat.le_of_eq rfl) (hb hby d6_23) (fun _ _ => ⟨rfl, e4, (by decide : 0 + 0 ≤ _), (by decide : 0 + 0 ≤ _)⟩)
      dsimp only [Pt.U, Pt.locs, Pt.cells, Pt.slots] at X5 l5 y5 z5 st5 hQ5
      subst l5 y5 z5
      obtain ⟨h5, e5⟩ : ∃ z, T5.heap = z := ⟨_, rfl⟩
      rw [e5] at hQ5
      obtain ⟨rfl, N5q, Kq5, G5_0, G5_1, G5_2, G5_3, G5_4, G5_5, G5_6, G5_7⟩ := hQ5
      have N5 := Fr.app N4 N5q
      have K5 := Keep.trans K4 Kq5 (allS (Or.inl (List.mem_of_getElem? (i := 0) rfl)) all0)
      have Z5 := Nat.le_trans Z4 Kq5.1
      refine Goes.tr st5 ?_
      show Goes p e below s _ _ _ (T5.setTop (mkF m 26 #[.val (.ref r0), .val (.int p1), .val (.int p2)] []))
      refine Goes.ret0 X5 hx hlk Bd.returns (hb hby d6_26) ?_ (by decide) (by decide)
      exact (show Q_rm6 Z r0 p1 p2 w_r0_reached w_r0_state w_r0_outgoing w_r0_terminated w_r0_transitions w_r0_firstStuck w_r0_secondStuck h0 n0 _ T5.heap _ by rw [e5]; exact ⟨rfl, N5, K5, G5_0, G5_1, G5_2, G5_3, G5_4, (by rw [show (g_rm6_5 r0 p1 p2 w_r0_reached w_r0_state w_r0_outgoing w_r0_terminated w_r0_transitions w_r0_firstStuck w_r0_secondStuck) = w_r0_transitions from by simp only [g_rm6_5, if_pos hc3_1, if_neg hc15_2]]; exact G5_5), (by rw [show (g_rm6_6 r0 p1 p2 w_r0_reached w_r0_state w_r0_outgoing w_r0_terminated w_r0_transitions w_r0_firstStuck w_r0_secondStuck) = (g_rm7_6 r0 w_r0_reached w_r0_state w_r0_outgoing (nar .boolean (1 : Int32)) w_r0_transitions w_r0_firstStuck w_r0_secondStuck) from by simp only [g_rm6_6, if_pos hc3_1, if_neg hc15_2]]; exact G5_6), (by rw [show (g_rm6_7 r0 p1 p2 w_r0_reached w_r0_state w_r0_outgoing w_r0_terminated w_r0_transitions w_r0_firstStuck w_r0_secondStuck) = (g_rm7_7 r0 w_r0_reached w_r0_state w_r0_outgoing (nar .boolean (1 : Int32)) w_r0_transitions w_r0_firstStuck w_r0_secondStuck) from by simp only [g_rm6_7, if_pos hc3_1, if_neg hc15_2]]; exact G5_7)⟩)
  · skip
    refine Goes.go (fun _ kst => XS.ifNo X0.here hx rfl (hb hby d6_3) rfl ((if0 _ _).trans (feq hc3_1).1) kst) ?_
    show Goes p e below s _ _ _ (s₁.setTop (mkF m 6 #[.val (.ref r0), .val (.int p1), .val (.int p2)] []))
    refine Goes.go (fun _ kst => XS.aloadN X0.here hx rfl (hb hby d6_6) rfl rfl  kst) ?_
    show Goes p e below s _ _ _ (s₁.setTop (mkF m 7 #[.val (.ref r0), .val (.int p1), .val (.int p2)] [(.ref r0)]))
    refine Goes.go (fun _ kst => XS.iloadN X0.here hx rfl (hb hby d6_7) rfl  kst) ?_
    show Goes p e below s _ _ _ (s₁.setTop (mkF m 8 #[.val (.ref r0), .val (.int p1), .val (.int p2)] [(.int p2), (.ref r0)]))
    refine Goes.go (fun _ kst => XS.iconst X0.here hx rfl (hb hby d6_8) kst) ?_
    show Goes p e below s _ _ _ (s₁.setTop (mkF m 9 #[.val (.ref r0), .val (.int p1), .val (.int p2)] [(.int (0 : Int32)), (.int p2), (.ref r0)]))
    obtain ⟨cq6, kq6, q6a, q6b, q6c⟩ := isOf hZ e0 E_r0
    obtain ⟨_, _, ⟨T6, L6, k6, n6⟩, -, X6, ⟨Lc6, hQ6, l6, y6, z6⟩, st6⟩ := X0.virtualBack hx (y := (⟨"com/example/surety/surety/Search", "add", "(II)V"⟩ : MethodName)) (z := (⟨"com/example/surety/surety/Search", "add", "(II)V"⟩ : MethodName)) hown (mvT hZ (hw _ (List.mem_of_getElem? (i := 71) rfl))) (mvT hZ (hw _ (List.mem_of_getElem? (i := 72) rfl))) (notFace_of_selects (args := #[]) (mvT hZ (hw _ (List.mem_of_getElem? (i := 74) rfl)))) (mvT hZ (hw _ (List.mem_of_getElem? (i := 74) rfl))) (mvT hZ (hw _ (List.mem_of_getElem? (i := 73) rfl))) (by decide) (backOf (W := 0) (rm10 l Z a0 hw [] r0 p2 (0 : Int32) w_r0_reached w_r0_state w_r0_outgoing w_r0_terminated w_r0_transitions w_r0_firstStuck w_r0_secondStuck h0 n0 Z0 E_r0 g_r0 F_r0_reached F_r0_state F_r0_outgoing F_r0_terminated F_r0_transitions F_r0_firstStuck F_r0_secondStuck h1r) hZ (hw _ (List.mem_of_getElem? (i := 75) rfl)) (hw _ (List.mem_of_getElem? (i := 2) rfl)) (by decide) (by decide)) q6a q6c (g := (mkF m 9 #[.val (.ref r0), .val (.int p1), .val (.int p2)] [(.int (0 : Int32)), (.int p2), (.ref r0)])) rfl (by rw [hml]; rfl) (Steps.refl _) (argsL := [(.int p2), (.int (0 : Int32))]) (rest := []) (lenOf pd_1 rfl) rfl (by show 2 * 0 + _ ≤ _; exact Nat.le_of_eq rfl) (hb hby d6_9) (fun _ _ => ⟨rfl, e0, (by decide : 0 + 0 ≤ _), (by decide : 0 + 0 ≤ _)⟩)
    dsimp only [Pt.U, Pt.locs, Pt.cells, Pt.slots] at X6 l6 y6 z6 st6 hQ6
    subst l6 y6 z6
    obtain ⟨h6, e6⟩ : ∃ z, T6.heap = z := ⟨_, rfl⟩
    rw [e6] at hQ6
    obtain ⟨rfl, N6q, Kq6, G6_0, G6_1, G6_2, G6_3, G6_4, G6_5, G6_6, G6_7⟩ := hQ6
    have N6 := Fr.app N0 N6q
    have K6 := Keep.trans K0 Kq6 (allS (Or.inl (List.mem_of_getElem? (i := 0) rfl)) all0)
    have Z6 := Nat.le_trans Z0 Kq6.1
    refine Goes.tr st6 ?_
    show Goes p e below s _ _ _ (T6.setTop (mkF m 12 #[.val (.ref r0), .val (.int p1), .val (.int p2)] []))
    refine Goes.go (fun _ kst => XS.iloadN X6.here hx rfl (hb hby d6_12) rfl  kst) ?_
    show Goes p e below s _ _ _ (T6.setTop (mkF m 13 #[.val (.ref r0), .val (.int p1), .val (.int p2)] [(.int p1)]))
    refine Goes.go (fun _ kst => XS.iconst X6.here hx rfl (hb hby d6_13) kst) ?_
    show Goes p e below s _ _ _ (T6.setTop (mkF m 14 #[.val (.ref r0), .val (.int p1), .val (.int p2)] [(.int (1 : Int32)), (.int p1)]))
    refine Goes.go (fun _ kst => XS.iand X6.here hx rfl (hb hby d6_14) rfl kst) ?_
    show Goes p e below s _ _ _ (T6.setTop (mkF m 15 #[.val (.ref r0), .val (.int p1), .val (.int p2)] [(.int (p1 &&& (1 : Int32)))]))
    by_cases hc15_7 : (p1 &&& (1 : Int32)) = (0 : Int32)
    · skip
      refine Goes.go (fun _ kst => XS.ifYes X6.here hx rfl (pc0 := 15) (pc' := 22) rfl (hb hby d6_15) rfl ((if0 _ _).trans (teq hc15_7).1) (by decide) (by decide) kst) ?_
      show Goes p e below s _ _ _ (T6.setTop (mkF m 22 #[.val (.ref r0), .val (.int p1), .val (.int p2)] []))
      refine Goes.go (fun _ kst => XS.aloadN X6.here hx rfl (hb hby d6_22) rfl rfl  kst) ?_
      show Goes p e below s _ _ _ (T6.setTop (mkF m 23 #[.val (.ref r0), .val (.int p1), .val (.int p2)] [(.ref r0)]))
      obtain ⟨cq8, kq8, q8a, q8b, q8c⟩ := isOf hZ e6 G6_0
      obtain ⟨_, _, ⟨T8, L8, k8, n8⟩, -, X8, ⟨Lc8, hQ8, l8, y8, z8⟩, st8⟩ := X6.virtualBack hx (y := (⟨"com/example/surety/surety/Search", "endState", "()V"⟩ : MethodName)) (z := (⟨"com/example/surety/surety/Search", "endState", "()V"⟩ : MethodName)) hown (mvT hZ (hw _ (List.mem_of_getElem? (i := 50) rfl))) (mvT hZ (hw _ (List.mem_of_getElem? (i := 51) rfl))) (notFace_of_selects (args := #[]) (mvT hZ (hw _ (List.mem_of_getElem? (i := 53) rfl)))) (mvT hZ (hw _ (List.mem_of_getElem? (i := 53) rfl))) (mvT hZ (hw _ (List.mem_of_getElem? (i := 52) rfl))) (by decide) (backOf (W := 0) (rm7 l Z a0 hw [] r0 w_r0_reached w_r0_state (w_r0_outgoing + (1 : Int32)) w_r0_terminated (w_r0_transitions + (1 : Int64)) w_r0_firstStuck w_r0_secondStuck h6 n0 Z6 G6_0 g_r0 G6_1 G6_2 G6_3 G6_4 G6_5 G6_6 G6_7) hZ (hw _ (List.mem_of_getElem? (i := 54) rfl)) (hw _ (List.mem_of_getElem? (i := 2) rfl)) (by decide) (by decide)) q8a q8c (g := (mkF m 23 #[.val (.ref r0), .val (.int p1), .val (.int p2)] [(.ref r0)])) rfl (by rw [hml]; rfl) (Steps.refl _) (argsL := []) (rest := []) (lenOf pd_0 rfl) rfl (by show 2 * 0 + _ ≤ _; exact Nat.le_of_eq rfl) (hb hby d6_23) (fun _ _ => ⟨rfl, e6, (by decide : 0 + 0 ≤ _), (by decide : 0 + 0 ≤ _)⟩)
      dsimp only [Pt.U, Pt.locs, Pt.cells, Pt.slots] at X8 l8 y8 z8 st8 hQ8
      subst l8 y8 z8
      obtain ⟨h8, e8⟩ : ∃ z, T8.heap = z := ⟨_, rfl⟩
      rw [e8] at hQ8
      obtain ⟨rfl, N8q, Kq8, G8_0, G8_1, G8_2, G8_3, G8_4, G8_5, G8_6, G8_7⟩ := hQ8
      have N8 := Fr.app N6 N8q
      have K8 := Keep.trans K6 Kq8 (allS (Or.inl (List.mem_of_getElem? (i := 0) rfl)) all0)
      have Z8 := Nat.le_trans Z6 Kq8.1
      refine Goes.tr st8 ?_
      show Goes p e below s _ _ _ (T8.setTop (mkF m 26 #[.val (.ref r0), .val (.int p1), .val (.int p2)] []))
      refine Goes.ret0 X8 hx hlk Bd.returns (hb hby d6_26) ?_ (by decide) (by decide)
      exact (show Q_rm6 Z r0 p1 p2 w_r0_reached w_r0_state w_r0_outgoing w_r0_terminated w_r0_transitions w_r0_firstStuck w_r0_secondStuck h0 n0 _ T8.heap _ by rw [e8]; exact ⟨rfl, N8, K8, G8_0, G8_1, G8_2, G8_3, G8_4, (by rw [show (g_rm6_5 r0 p1 p2 w_r0_reached w_r0_state w_r0_outgoing w_r0_terminated w_r0_transitions w_r0_firstStuck w_r0_secondStuck) = (w_r0_transitions + (1 : Int64)) from by simp only [g_rm6_5, if_neg hc3_1, if_pos hc15_7]]; exact G8_5), (by rw [show (g_rm6_6 r0 p1 p2 w_r0_reached w_r0_state w_r0_outgoing w_r0_terminated w_r0_transitions w_r0_firstStuck w_r0_secondStuck) = (g_rm7_6 r0 w_r0_reached w_r0_state (w_r0_outgoing + (1 : Int32)) w_r0_terminated (w_r0_transitions + (1 : Int64)) w_r0_firstStuck w_r0_secondStuck) from by simp only [g_rm6_6, if_neg hc3_1, if_pos hc15_7]]; exact G8_6), (by rw [show (g_rm6_7 r0 p1 p2 w_r0_reached w_r0_state w_r0_outgoing w_r0_terminated w_r0_transitions w_r0_firstStuck w_r0_secondStuck) = (g_rm7_7 r0 w_r0_reached w_r0_state (w_r0_outgoing + (1 : Int32)) w_r0_terminated (w_r0_transitions + (1 : Int64)) w_r0_firstStuck w_r0_secondStuck) from by simp only [g_rm6_7, if_neg hc3_1, if_pos hc15_7]]; exact G8_7)⟩)
    · skip
      refine Goes.go (fun _ kst => XS.ifNo X6.here hx rfl (hb hby d6_15) rfl ((if0 _ _).trans (feq hc15_7).1) kst) ?_
      show Goes p e below s _ _ _ (T6.setTop (mkF m 18 #[.val (.ref r0), .val (.int p1), .val (.int p2)] []))
      refine Goes.go (fun _ kst => XS.aloadN X6.here hx rfl (hb hby d6_18) rfl rfl  kst) ?_
      show Goes p e below s _ _ _ (T6.setTop (mkF m 19 #[.val (.ref r0), .val (.int p1), .val (.int p2)] [(.ref r0)]))
      obtain ⟨cq9, kq9, q9a, q9b, q9c⟩ := isOf hZ e6 G6_0
      obtain ⟨_, _, ⟨T9, L9, k9, n9⟩, -, X9, ⟨Lc9, hQ9, l9, y9, z9⟩, st9⟩ := X6.virtualBack hx (y := (⟨"com/example/surety/surety/Search", "terminate", "()V"⟩ : MethodName)) (z := (⟨"com/example/surety/surety/Search", "terminate", "()V"⟩ : MethodName)) hown (mvT hZ (hw _ (List.mem_of_getElem? (i := 66) rfl))) (mvT hZ (hw _ (List.mem_of_getElem? (i := 67) rfl))) (notFace_of_selects (args := #[]) (mvT hZ (hw _ (List.mem_of_getElem? (i := 69) rfl)))) (mvT hZ (hw _ (List.mem_of_getElem? (i := 69) rfl))) (mvT hZ (hw _ (List.mem_of_getElem? (i := 68) rfl))) (by decide) (backOf (W := 0) (rm9 l Z a0 hw [] r0 w_r0_reached w_r0_state (w_r0_outgoing + (1 : Int32)) w_r0_terminated (w_r0_transitions + (1 : Int64)) w_r0_firstStuck w_r0_secondStuck h6 n0 Z6 G6_0 g_r0 G6_1 G6_2 G6_3 G6_4 G6_5 G6_6 G6_7) hZ (hw _ (List.mem_of_getElem? (i := 70) rfl)) (hw _ (List.mem_of_getElem? (i := 2) rfl)) (by decide) (by decide)) q9a q9c (g := (mkF m 19 #[.val (.ref r0), .val (.int p1), .val (.int p2)] [(.ref r0)])) rfl (by rw [hml]; rfl) (Steps.refl _) (argsL := []) (rest := []) (lenOf pd_0 rfl) rfl (by show 2 * 0 + _ ≤ _; exact Nat.le_of_eq rfl) (hb hby d6_19) (fun _ _ => ⟨rfl, e6, (by decide : 0 + 0 ≤ _), (by decide : 0 + 0 ≤ _)⟩)
      dsimp only [Pt.U, Pt.locs, Pt.cells, Pt.slots] at X9 l9 y9 z9 st9 hQ9
      subst l9 y9 z9
      obtain ⟨h9, e9⟩ : ∃ z, T9.heap = z := ⟨_, rfl⟩
      rw [e9] at hQ9
      obtain ⟨rfl, N9q, Kq9, G9_0, G9_1, G9_2, G9_3, G9_4, G9_5, G9_6, G9_7⟩ := hQ9
      have N9 := Fr.app N6 N9q
      have K9 := Keep.trans K6 Kq9 (allS (Or.inl (List.mem_of_getElem? (i := 0) rfl)) all0)
      have Z9 := Nat.le_trans Z6 Kq9.1
      refine Goes.tr st9 ?_
      show Goes p e below s _ _ _ (T9.setTop (mkF m 22 #[.val (.ref r0), .val (.int p1), .val (.int p2)] []))
      refine Goes.go (fun _ kst => XS.aloadN X9.here hx rfl (hb hby d6_22) rfl rfl  kst) ?_
      show Goes p e below s _ _ _ (T9.setTop (mkF m 23 #[.val (.ref r0), .val (.int p1), .val (.int p2)] [(.ref r0)]))
      obtain ⟨cq10, kq10, q10a, q10b, q10c⟩ := isOf hZ e9 G9_0
      obtain ⟨_, _, ⟨T10, L10, k10, n10⟩, -, X10, ⟨Lc10, hQ10, l10, y10, z10⟩, st10⟩ := X9.virtualBack hx (y := (⟨"com/example/surety/surety/Search", "endState", "()V"⟩ : MethodName)) (z := (⟨"com/example/surety/surety/Search", "endState", "()V"⟩ : MethodName)) hown (mvT hZ (hw _ (List.mem_of_getElem? (i := 50) rfl))) (mvT hZ (hw _ (List.mem_of_getElem? (i := 51) rfl))) (notFace_of_selects (args := #[]) (mvT hZ (hw _ (List.mem_of_getElem? (i := 53) rfl)))) (mvT hZ (hw _ (List.mem_of_getElem? (i := 53) rfl))) (mvT hZ (hw _ (List.mem_of_getElem? (i := 52) rfl))) (by decide) (backOf (W := 0) (rm7 l Z a0 hw [] r0 w_r0_reached w_r0_state (w_r0_outgoing + (1 : Int32)) (nar .boolean (1 : Int32)) (w_r0_transitions + (1 : Int64)) w_r0_firstStuck w_r0_secondStuck h9 n0 Z9 G9_0 g_r0 G9_1 G9_2 G9_3 G9_4 G9_5 G9_6 G9_7) hZ (hw _ (List.mem_of_getElem? (i := 54) rfl)) (hw _ (List.mem_of_getElem? (i := 2) rfl)) (by decide) (by decide)) q10a q10c (g := (mkF m 23 #[.val (.ref r0), .val (.int p1), .val (.int p2)] [(.ref r0)])) rfl (by rw [hml]; rfl) (Steps.refl _) (argsL := []) (rest := []) (lenOf pd_0 rfl) rfl (by show 2 * 0 + _ ≤ _; exact Nat.le_of_eq rfl) (hb hby d6_23) (fun _ _ => ⟨rfl, e9, (by decide : 0 + 0 ≤ _), (by decide : 0 + 0 ≤ _)⟩)
      dsimp only [Pt.U, Pt.locs, Pt.cells, Pt.slots] at X10 l10 y10 z10 st10 hQ10
      subst l10 y10 z10
      obtain ⟨h10, e10⟩ : ∃ z, T10.heap = z := ⟨_, rfl⟩
      rw [e10] at hQ10
      obtain ⟨rfl, N10q, Kq10, G10_0, G10_1, G10_2, G10_3, G10_4, G10_5, G10_6, G10_7⟩ := hQ10
      have N10 := Fr.app N9 N10q
      have K10 := Keep.trans K9 Kq10 (allS (Or.inl (List.mem_of_getElem? (i := 0) rfl)) all0)
      have Z10 := Nat.le_trans Z9 Kq10.1
      refine Goes.tr st10 ?_
      show Goes p e below s _ _ _ (T10.setTop (mkF m 26 #[.val (.ref r0), .val (.int p1), .val (.int p2)] []))
      refine Goes.ret0 X10 hx hlk Bd.returns (hb hby d6_26) ?_ (by decide) (by decide)
      exact (show Q_rm6 Z r0 p1 p2 w_r0_reached w_r0_state w_r0_outgoing w_r0_terminated w_r0_transitions w_r0_firstStuck w_r0_secondStuck h0 n0 _ T10.heap _ by rw [e10]; exact ⟨rfl, N10, K10, G10_0, G10_1, G10_2, G10_3, G10_4, (by rw [show (g_rm6_5 r0 p1 p2 w_r0_reached w_r0_state w_r0_outgoing w_r0_terminated w_r0_transitions w_r0_firstStuck w_r0_secondStuck) = (w_r0_transitions + (1 : Int64)) from by simp only [g_rm6_5, if_neg hc3_1, if_neg hc15_7]]; exact G10_5), (by rw [show (g_rm6_6 r0 p1 p2 w_r0_reached w_r0_state w_r0_outgoing w_r0_terminated w_r0_transitions w_r0_firstStuck w_r0_secondStuck) = (g_rm7_6 r0 w_r0_reached w_r0_state (w_r0_outgoing + (1 : Int32)) (nar .boolean (1 : Int32)) (w_r0_transitions + (1 : Int64)) w_r0_firstStuck w_r0_secondStuck) from by simp only [g_rm6_6, if_neg hc3_1, if_neg hc15_7]]; exact G10_6), (by rw [show (g_rm6_7 r0 p1 p2 w_r0_reached w_r0_state w_r0_outgoing w_r0_terminated w_r0_transitions w_r0_firstStuck w_r0_secondStuck) = (g_rm7_7 r0 w_r0_reached w_r0_state (w_r0_outgoing + (1 : Int32)) (nar .boolean (1 : Int32)) (w_r0_transitions + (1 : Int64)) w_r0_firstStuck w_r0_secondStuck) from by simp only [g_rm6_7, if_neg hc3_1, if_neg hc15_7]]; exact G10_7)⟩)
theorem d8_0 : decode prog_182_method_8_code 0 = .ok (.aload_n 0, 1) := by decide +kernel
theorem d8_1 : decode prog_182_method_8_code 1 = .ok (.getfield 20, 3) := by decide +kernel
theorem d8_4 : decode prog_182_method_8_code 4 = .ok (.iload_n 1, 1) := by decide +kernel
theorem d8_5 : decode prog_182_method_8_code 5 = .ok (.if_icmp .eq 10, 3) := by decide +kernel
theorem d8_8 : decode prog_182_method_8_code 8 = .ok (.aload_n 0, 1) := by decide +kernel
theorem d8_9 : decode prog_182_method_8_code 9 = .ok (.getfield 20, 3) := by decide +kernel
theorem d8_12 : decode prog_182_method_8_code 12 = .ok (.goto 7, 3) := by decide +kernel
theorem d8_15 : decode prog_182_method_8_code 15 = .ok (.aload_n 0, 1) := by decide +kernel
theorem d8_16 : decode prog_182_method_8_code 16 = .ok (.getfield 23, 3) := by decide +kernel
theorem d8_19 : decode prog_182_method_8_code 19 = .ok (.ireturn, 1) := by decide +kernel
theorem pn_8 : plainName "com/example/surety/surety/Search" = true := by first | (simp [plainName, overriddenIn]; done) | decide +kernel
theorem ef_rm8 (m : MethodId) (x0 : Addr) (x1 : Int32) : entryFrame m #[(.ref x0), (.int x1)] 2 = mkF m 0 #[.val (.ref x0), .val (.int x1)] [] := by first | (simp [entryFrame, mkF, argsToLocals, Value.category]; done) | rfl
def f8 (r0 : Addr) (p1 : Int32) (w_r0_reached : Int32) (w_r0_state : Int32) (w_r0_outgoing : Int32) (w_r0_terminated : Int32) (w_r0_transitions : Int64) (w_r0_firstStuck : Int32) (w_r0_secondStuck : Int32) : Int32 := (if w_r0_firstStuck = p1 then w_r0_secondStuck else w_r0_firstStuck)
set_option maxRecDepth 65536 in
set_option maxHeartbeats 40000000 in
theorem rm8 (l : Launch) (Z : State) (a0 : Array Value) (hw : ∀ d ∈ tables_1, d.before a0 Z = true) (ws : List Jvm.Cond) (r0 : Addr) (p1 : Int32) (w_r0_reached : Int32) (w_r0_state : Int32) (w_r0_outgoing : Int32) (w_r0_terminated : Int32) (w_r0_transitions : Int64) (w_r0_firstStuck : Int32) (w_r0_secondStuck : Int32) (h0 : Heap) (n0 : Nat) (Z0 : n0 ≤ h0.size) (F_r0_reached : Fld Z h0 r0 "com/example/surety/surety/Search" "reached" "I" (.int w_r0_reached)) (F_r0_state : Fld Z h0 r0 "com/example/surety/surety/Search" "state" "I" (.int w_r0_state)) (F_r0_outgoing : Fld Z h0 r0 "com/example/surety/surety/Search" "outgoing" "I" (.int w_r0_outgoing)) (F_r0_terminated : Fld Z h0 r0 "com/example/surety/surety/Search" "terminated" "Z" (.int w_r0_terminated)) (F_r0_transitions : Fld Z h0 r0 "com/example/surety/surety/Search" "transitions" "J" (.long w_r0_transitions)) (F_r0_firstStuck : Fld Z h0 r0 "com/example/surety/surety/Search" "firstStuck" "I" (.int w_r0_firstStuck)) (F_r0_secondStuck : Fld Z h0 r0 "com/example/surety/surety/Search" "secondStuck" "I" (.int w_r0_secondStuck)) :
    MetFree l (⟨"com/example/surety/surety/Search", "deadlock", "(I)I"⟩ : MethodName) (head1 (Jvm.Cond.code (⟨"com/example/surety/surety/Search", "deadlock", "(I)I"⟩ : MethodName) prog_182_method_8_code 2 (some .int) :: ws) ({ frames := 0, cells := 0, slots := 0, locals := 0 } : Room)) (fun a U => a = #[(.ref r0), (.int p1)] ∧ Z.Warmed39 U.vm ∧ U.heap = h0) (fun _ _ _ _ _ => True) (fun _ U o U' => ∃ v L, o = .returned v ∧ Qp (.int (f8 r0 p1 w_r0_reached w_r0_state w_r0_outgoing w_r0_terminated w_r0_transitions w_r0_firstStuck w_r0_secondStuck)) h0 n0 v U'.heap L ∧ FrameEnd U o U' L ({ frames := 0, cells := 0, slots := 0, locals := 0 } : Room).cells ({ frames := 0, cells := 0, slots := 0, locals := 0 } : Room).slots) := by
  refine MetFree.of_bodySF (plainFor_of_name pn_8) hisR ?_
  intro p e s m args below meth c s₁ Bd hml0 hP hK
  obtain ⟨rfl, hZ, hh⟩ := hP
  have hx := Bd.exec
  have hby := Bd.bytes
  have hml : c.maxLocals = 2 := hml0
  have hown : s.vm.findClass "com/example/surety/surety/Search" = some m.cls := findClass_of_methodNamed Bd.named
  have hnm := (name_of_methodNamed Bd.named Bd.method).1
  have hlk : meth.locks = false := BodyLoose.notSynchronized Bd
  have X0 : Stand p l e ({ frames := 0, cells := 0, slots := 0, locals := 0 } : Room) s m #[(.ref r0), (.int p1)] below meth c s₁ [] 0 0 := Stand.of_body Bd
  have e0 : s₁.heap = h0 := by rw [← hh, Bd.state]; rfl
  have N0 := Fr.nil n0
  have K0 : Keep h0 h0 [] := Keep.refl _ _
  show Goes p e below s (Qp (.int (f8 r0 p1 w_r0_reached w_r0_state w_r0_outgoing w_r0_terminated w_r0_transitions w_r0_firstStuck w_r0_secondStuck)) h0 n0) ({ frames := 0, cells := 0, slots := 0, locals := 0 } : Room).cells ({ frames := 0, cells := 0, slots := 0, locals := 0 } : Room).slots (s₁.setTop (entryFrame m #[(.ref r0), (.int p1)] 2))
  rw [ef_rm8]
  show Goes p e below s _ _ _ (s₁.setTop (mkF m 0 #[.val (.ref r0), .val (.int p1)] []))
  refine Goes.go (fun _ kst => XS.aloadN X0.here hx rfl (hb hby d8_0) rfl rfl  kst) ?_
  show Goes p e below s _ _ _ (s₁.setTop (mkF m 1 #[.val (.ref r0), .val (.int p1)] [(.ref r0)]))
  obtain ⟨T1, X1, e1, st1⟩ := getF X0 hx hZ hown (host := "") (Or.inl (hw _ (List.mem_of_getElem? (i := 40) rfl))) Via.refl e0 F_r0_firstStuck (g := (mkF m 1 #[.val (.ref r0), .val (.int p1)] [(.ref r0)])) rfl rfl (hb hby d8_1)
  refine Goes.go st1 ?_
  show Goes p e below s _ _ _ (T1.setTop (mkF m 4 #[.val (.ref r0), .val (.int p1)] [(.int w_r0_firstStuck)]))
  refine Goes.go (fun _ kst => XS.iloadN X1.here hx rfl (hb hby d8_4) rfl  kst) ?_
  show Goes p e below s _ _ _ (T1.setTop (mkF m 5 #[.val (.ref r0), .val (.int p1)] [(.int p1), (.int w_r0_firstStuck)]))
  by_cases hc5_2 : w_r0_firstStuck = p1
  · skip
    refine Goes.qi (if_pos hc5_2) ?_
    refine Goes.go (fun _ kst => XS.icmpYes X1.here hx rfl (pc0 := 5) (pc' := 15) rfl (hb hby d8_5) rfl (teq hc5_2).1 (by decide) (by decide) kst) ?_
    show Goes p e below s _ _ _ (T1.setTop (mkF m 15 #[.val (.ref r0), .val (.int p1)] []))
    refine Goes.go (fun _ kst => XS.aloadN X1.here hx rfl (hb hby d8_15) rfl rfl  kst) ?_
    show Goes p e below s _ _ _ (T1.setTop (mkF m 16 #[.val (.ref r0), .val (.int p1)] [(.ref r0)]))
    obtain ⟨T3, X3, e3, st3⟩ := getF X1 hx hZ hown (host := "") (Or.inl (hw _ (List.mem_of_getElem? (i := 42) rfl))) Via.refl e1 F_r0_secondStuck (g := (mkF m 16 #[.val (.ref r0), .val (.int p1)] [(.ref r0)])) rfl rfl (hb hby d8_16)
    refine Goes.go st3 ?_
    show Goes p e below s _ _ _ (T3.setTop (mkF m 19 #[.val (.ref r0), .val (.int p1)] [(.int w_r0_secondStuck)]))
    refine Goes.retI X3 hx hlk Bd.returns (hb hby d8_19) ?_ (by decide) (by decide)
    exact ⟨by rfl, N0, e3⟩
  · skip
    refine Goes.qi (if_neg hc5_2) ?_
    refine Goes.go (fun _ kst => XS.icmpNo X1.here hx rfl (hb hby d8_5) rfl (feq hc5_2).1 kst) ?_
    show Goes p e below s _ _ _ (T1.setTop (mkF m 8 #[.val (.ref r0), .val (.int p1)] []))
    refine Goes.go (fun _ kst => XS.aloadN X1.here hx rfl (hb hby d8_8) rfl rfl  kst) ?_
    show Goes p e below s _ _ _ (T1.setTop (mkF m 9 #[.val (.ref r0), .val (.int p1)] [(.ref r0)]))
    obtain ⟨T4, X4, e4, st4⟩ := getF X1 hx hZ hown (host := "") (Or.inl (hw _ (List.mem_of_getElem? (i := 40) rfl))) Via.refl e1 F_r0_firstStuck (g := (mkF m 9 #[.val (.ref r0), .val (.int p1)] [(.ref r0)])) rfl rfl (hb hby d8_9)
    refine Goes.go st4 ?_
    show Goes p e below s _ _ _ (T4.setTop (mkF m 12 #[.val (.ref r0), .val (.int p1)] [(.int w_r0_firstStuck)]))
    refine Goes.go (fun _ kst => XS.goto X4.here hx rfl (pc0 := 12) (pc' := 19) rfl (hb hby d8_12) (by decide) (by decide) kst) ?_
    show Goes p e below s _ _ _ (T4.setTop (mkF m 19 #[.val (.ref r0), .val (.int p1)] [(.int w_r0_firstStuck)]))
    refine Goes.retI X4 hx hlk Bd.returns (hb hby d8_19) ?_ (by decide) (by decide)
    exact ⟨by rfl, N0, e4⟩
def G6 (k st a : Int32) : Int32 := if (k &&& (2 : Int32)) = (0 : Int32) then (if (k &&& (1 : Int32)) = (0 : Int32) then (if a < (0 : Int32) then st else a) else a) else a
def G7 (k st a b : Int32) : Int32 := if (k &&& (2 : Int32)) = (0 : Int32) then (if (k &&& (1 : Int32)) = (0 : Int32) then (if a < (0 : Int32) then b else (if b < (0 : Int32) then st else b)) else b) else b
theorem own_6 (r : Addr) (k x re st : Int32) (t : Int64) (a b : Int32) : g_rm6_6 r k x re st (0 : Int32) (0 : Int32) t a b = G6 k st a := by
  unfold g_rm6_6 G6
  by_cases h2 : (k &&& (2 : Int32)) = (0 : Int32) <;> by_cases h1 : (k &&& (1 : Int32)) = (0 : Int32) <;> simp only [h1, h2, if_true, if_false] <;> rfl
theorem own_7 (r : Addr) (k x re st : Int32) (t : Int64) (a b : Int32) : g_rm6_7 r k x re st (0 : Int32) (0 : Int32) t a b = G7 k st a b := by
  unfold g_rm6_7 G7
  by_cases h2 : (k &&& (2 : Int32)) = (0 : Int32) <;> by_cases h1 : (k &&& (1 : Int32)) = (0 : Int32) <;> simp only [h1, h2, if_true, if_false] <;> rfl
theorem own_4 (x : Int32) : (x &&& (3 : Int32)) = 0 ∨ (x &&& (3 : Int32)) = 1 ∨ (x &&& (3 : Int32)) = 2 ∨ (x &&& (3 : Int32)) = 3 := by
  obtain ⟨n, hn, en⟩ := own_andN x 3 2 (by decide) (by decide)
  rw [en]
  have : n = 0 ∨ n = 1 ∨ n = 2 ∨ n = 3 := by omega
  rcases this with rfl | rfl | rfl | rfl
  · exact Or.inl rfl
  · exact Or.inr (Or.inl rfl)
  · exact Or.inr (Or.inr (Or.inl rfl))
  · exact Or.inr (Or.inr (Or.inr rfl))
theorem own_pick {a b : Int32} (h : a = (-1 : Int32) → b = (-1 : Int32)) : (if a = (-1 : Int32) then b else a) = a := by
  by_cases q : a = -1
  · rw [if_pos q, h q, q]
  · rw [if_neg q]
theorem pn_0 : plainName "com/example/surety/surety/SearchEndStatePinLaw" = true := by first | (simp [plainName, overriddenIn]; done) | decide +kernel
theorem ef_rm0 (m : MethodId) (x0 : Int32) (x1 : Int32) (x2 : Int32) : entryFrame m #[(.int x0), (.int x1), (.int x2)] maxLocals = mkF m 0 #[.val (.int x0), .val (.int x1), .val (.int x2), .unset, .unset, .unset, .unset, .unset, .unset, .unset] [] := by first | (simp [entryFrame, mkF, argsToLocals, Value.category, maxLocals]; done) | rfl
def Q0 (n0 : Nat) (v : Option Value) (h : Heap) (L : List Loc) : Prop := v = some (.int 1) ∧ Fr n0 L
set_option maxRecDepth 65536 in
set_option maxHeartbeats 40000000 in
theorem rm0 (l : Launch) (Z : State) (a0 : Array Value) (hw : ∀ d ∈ tables_1, d.before a0 Z = true) (ws : List Jvm.Cond) (p0 : Int32) (p1 : Int32) (p2 : Int32) (dc : Addr) (h0 : Heap) (n0 : Nat) (Z0 : n0 ≤ h0.size) (S_DEFAULTCAPACITY_EMPTY_ELEMENTDATA : Sta Z h0 "java/util/ArrayList" "DEFAULTCAPACITY_EMPTY_ELEMENTDATA" "[Ljava/lang/Object;" (.ref dc)) :
    MetFree l x (head1 (Jvm.Cond.code x code maxLocals ret :: ws) room_1) (fun a U => a = #[(.int p0), (.int p1), (.int p2)] ∧ Z.Warmed39 U.vm ∧ U.heap = h0) (fun _ _ _ _ _ => True) (fun _ U o U' => ∃ v L, o = .returned v ∧ Q0 n0 v U'.heap L ∧ FrameEnd U o U' L room_1.cells room_1.slots) := by
  refine MetFree.of_bodySF (plainFor_of_name pn_0) hisR ?_
  intro p e s m args below meth c s₁ Bd hml0 hP hK
  obtain ⟨rfl, hZ, hh⟩ := hP
  have hx := Bd.exec
  have hby := Bd.bytes
  have hml : c.maxLocals = 10 := hml0
  have hown : s.vm.findClass "com/example/surety/surety/SearchEndStatePinLaw" = some m.cls := findClass_of_methodNamed Bd.named
  have hnm := (name_of_methodNamed Bd.named Bd.method).1
  have hlk : meth.locks = false := BodyLoose.notSynchronized Bd
  have X0 : Stand p l e room_1 s m #[(.int p0), (.int p1), (.int p2)] below meth c s₁ [] 0 0 := Stand.of_body Bd
  have e0 : s₁.heap = h0 := by rw [← hh, Bd.state]; rfl
  have N0 := Fr.nil n0
  have K0 : Keep h0 h0 [] := Keep.refl _ _
  show Goes p e below s (Q0 n0) room_1.cells room_1.slots (s₁.setTop (entryFrame m #[(.int p0), (.int p1), (.int p2)] maxLocals))
  rw [ef_rm0]
  show Goes p e below s _ _ _ (s₁.setTop (mkF m 0 #[.val (.int p0), .val (.int p1), .val (.int p2), .unset, .unset, .unset, .unset, .unset, .unset, .unset] []))
  refine Goes.go (fun _ kst => XS.iloadN X0.here hx rfl (hb hby at_0) rfl  kst) ?_
  show Goes p e below s _ _ _ (s₁.setTop (mkF m 1 #[.val (.int p0), .val (.int p1), .val (.int p2), .unset, .unset, .unset, .unset, .unset, .unset, .unset] [(.int p0)]))
  refine Goes.go (fun _ kst => XS.iconst X0.here hx rfl (hb hby at_1) kst) ?_
  show Goes p e below s _ _ _ (s₁.setTop (mkF m 2 #[.val (.int p0), .val (.int p1), .val (.int p2), .unset, .unset, .unset, .unset, .unset, .unset, .unset] [(.int (3 : Int32)), (.int p0)]))
  refine Goes.go (fun _ kst => XS.iand X0.here hx rfl (hb hby at_2) rfl kst) ?_
  show Goes p e below s _ _ _ (s₁.setTop (mkF m 3 #[.val (.int p0), .val (.int p1), .val (.int p2), .unset, .unset, .unset, .unset, .unset, .unset, .unset] [(.int (p0 &&& (3 : Int32)))]))
  refine Goes.go (fun _ kst => XS.istoreN X0.here hx rfl (hb hby at_3) rfl (l' := #[.val (.int p0), .val (.int p1), .val (.int p2), .val (.int (p0 &&& (3 : Int32))), .unset, .unset, .unset, .unset, .unset, .unset]) rfl kst) ?_
  show Goes p e below s _ _ _ (s₁.setTop (mkF m 4 #[.val (.int p0), .val (.int p1), .val (.int p2), .val (.int (p0 &&& (3 : Int32))), .unset, .unset, .unset, .unset, .unset, .unset] []))
  generalize d_k0 : (p0 &&& (3 : Int32)) = k0
  show Goes p e below s _ _ _ (s₁.setTop (mkF m 4 #[.val (.int p0), .val (.int p1), .val (.int p2), .val (.int k0), .unset, .unset, .unset, .unset, .unset, .unset] []))
  refine Goes.go (fun _ kst => XS.iloadN X0.here hx rfl (hb hby at_4) rfl  kst) ?_
  show Goes p e below s _ _ _ (s₁.setTop (mkF m 5 #[.val (.int p0), .val (.int p1), .val (.int p2), .val (.int k0), .unset, .unset, .unset, .unset, .unset, .unset] [(.int p0)]))
  refine Goes.go (fun _ kst => XS.iconst X0.here hx rfl (hb hby at_5) kst) ?_
  show Goes p e below s _ _ _ (s₁.setTop (mkF m 6 #[.val (.int p0), .val (.int p1), .val (.int p2), .val (.int k0), .unset, .unset, .unset, .unset, .unset, .unset] [(.int (2 : Int32)), (.int p0)]))
  refine Goes.go (fun _ kst => XS.iushr X0.here hx rfl (hb hby at_6) rfl kst) ?_
  show Goes p e below s _ _ _ (s₁.setTop (mkF m 7 #[.val (.int p0), .val (.int p1), .val (.int p2), .val (.int k0), .unset, .unset, .unset, .unset, .unset, .unset] [(.int ((p0.toUInt32 >>> ((2 : Int32) &&& 31).toUInt32).toInt32))]))
  refine Goes.go (fun _ kst => XS.iconst X0.here hx rfl (hb hby at_7) kst) ?_
  show Goes p e below s _ _ _ (s₁.setTop (mkF m 8 #[.val (.int p0), .val (.int p1), .val (.int p2), .val (.int k0), .unset, .unset, .unset, .unset, .unset, .unset] [(.int (3 : Int32)), (.int ((p0.toUInt32 >>> ((2 : Int32) &&& 31).toUInt32).toInt32))]))
  refine Goes.go (fun _ kst => XS.iand X0.here hx rfl (hb hby at_8) rfl kst) ?_
  show Goes p e below s _ _ _ (s₁.setTop (mkF m 9 #[.val (.int p0), .val (.int p1), .val (.int p2), .val (.int k0), .unset, .unset, .unset, .unset, .unset, .unset] [(.int (((p0.toUInt32 >>> ((2 : Int32) &&& 31).toUInt32).toInt32) &&& (3 : Int32)))]))
  refine Goes.go (fun _ kst => XS.istore X0.here hx rfl (hb hby at_9) rfl (l' := #[.val (.int p0), .val (.int p1), .val (.int p2), .val (.int k0), .val (.int (((p0.toUInt32 >>> ((2 : Int32) &&& 31).toUInt32).toInt32) &&& (3 : Int32))), .unset, .unset, .unset, .unset, .unset]) rfl kst) ?_
  show Goes p e below s _ _ _ (s₁.setTop (mkF m 11 #[.val (.int p0), .val (.int p1), .val (.int p2), .val (.int k0), .val (.int (((p0.toUInt32 >>> ((2 : Int32) &&& 31).toUInt32).toInt32) &&& (3 : Int32))), .unset, .unset, .unset, .unset, .unset] []))
  generalize d_k1 : (((p0.toUInt32 >>> ((2 : Int32) &&& 31).toUInt32).toInt32) &&& (3 : Int32)) = k1
  show Goes p e below s _ _ _ (s₁.setTop (mkF m 11 #[.val (.int p0), .val (.int p1), .val (.int p2), .val (.int k0), .val (.int k1), .unset, .unset, .unset, .unset, .unset] []))
  refine Goes.go (fun _ kst => XS.iloadN X0.here hx rfl (hb hby at_11) rfl  kst) ?_
  show Goes p e below s _ _ _ (s₁.setTop (mkF m 12 #[.val (.int p0), .val (.int p1), .val (.int p2), .val (.int k0), .val (.int k1), .unset, .unset, .unset, .unset, .unset] [(.int p0)]))
  refine Goes.go (fun _ kst => XS.iconst X0.here hx rfl (hb hby at_12) kst) ?_
  show Goes p e below s _ _ _ (s₁.setTop (mkF m 13 #[.val (.int p0), .val (.int p1), .val (.int p2), .val (.int k0), .val (.int k1), .unset, .unset, .unset, .unset, .unset] [(.int (4 : Int32)), (.int p0)]))
  refine Goes.go (fun _ kst => XS.iushr X0.here hx rfl (hb hby at_13) rfl kst) ?_
  show Goes p e below s _ _ _ (s₁.setTop (mkF m 14 #[.val (.int p0), .val (.int p1), .val (.int p2), .val (.int k0), .val (.int k1), .unset, .unset, .unset, .unset, .unset] [(.int ((p0.toUInt32 >>> ((4 : Int32) &&& 31).toUInt32).toInt32))]))
  refine Goes.go (fun _ kst => XS.iconst X0.here hx rfl (hb hby at_14) kst) ?_
  show Goes p e below s _ _ _ (s₁.setTop (mkF m 15 #[.val (.int p0), .val (.int p1), .val (.int p2), .val (.int k0), .val (.int k1), .unset, .unset, .unset, .unset, .unset] [(.int (3 : Int32)), (.int ((p0.toUInt32 >>> ((4 : Int32) &&& 31).toUInt32).toInt32))]))
  refine Goes.go (fun _ kst => XS.iand X0.here hx rfl (hb hby at_15) rfl kst) ?_
  show Goes p e below s _ _ _ (s₁.setTop (mkF m 16 #[.val (.int p0), .val (.int p1), .val (.int p2), .val (.int k0), .val (.int k1), .unset, .unset, .unset, .unset, .unset] [(.int (((p0.toUInt32 >>> ((4 : Int32) &&& 31).toUInt32).toInt32) &&& (3 : Int32)))]))
  refine Goes.go (fun _ kst => XS.istore X0.here hx rfl (hb hby at_16) rfl (l' := #[.val (.int p0), .val (.int p1), .val (.int p2), .val (.int k0), .val (.int k1), .val (.int (((p0.toUInt32 >>> ((4 : Int32) &&& 31).toUInt32).toInt32) &&& (3 : Int32))), .unset, .unset, .unset, .unset]) rfl kst) ?_
  show Goes p e below s _ _ _ (s₁.setTop (mkF m 18 #[.val (.int p0), .val (.int p1), .val (.int p2), .val (.int k0), .val (.int k1), .val (.int (((p0.toUInt32 >>> ((4 : Int32) &&& 31).toUInt32).toInt32) &&& (3 : Int32))), .unset, .unset, .unset, .unset] []))
  generalize d_k2 : (((p0.toUInt32 >>> ((4 : Int32) &&& 31).toUInt32).toInt32) &&& (3 : Int32)) = k2
  have hk0 : k0 = 0 ∨ k0 = 1 ∨ k0 = 2 ∨ k0 = 3 := by rw [← d_k0]; exact own_4 _
  have hk1 : k1 = 0 ∨ k1 = 1 ∨ k1 = 2 ∨ k1 = 3 := by rw [← d_k1]; exact own_4 _
  have hk2 : k2 = 0 ∨ k2 = 1 ∨ k2 = 2 ∨ k2 = 3 := by rw [← d_k2]; exact own_4 _
  show Goes p e below s _ _ _ (s₁.setTop (mkF m 18 #[.val (.int p0), .val (.int p1), .val (.int p2), .val (.int k0), .val (.int k1), .val (.int k2), .unset, .unset, .unset, .unset] []))
  obtain ⟨T1, h1, X1, e1, E1, A1, D1, -, st1⟩ := newO X0 hx hZ hown (hw _ (List.mem_of_getElem? (i := 0) rfl)) (hw _ (List.mem_of_getElem? (i := 1) rfl)) (hw _ (List.mem_of_getElem? (i := 2) rfl)) e0 (g := (mkF m 18 #[.val (.int p0), .val (.int p1), .val (.int p2), .val (.int k0), .val (.int k1), .val (.int k2), .unset, .unset, .unset, .unset] [])) rfl (hb hby at_18) (by decide) (by decide)
  obtain ⟨b1, g1⟩ : ∃ z, z = h0.size := ⟨_, rfl⟩
  rw [← g1] at A1 D1 st1
  have gb1 : n0 ≤ b1 := Nat.le_trans Z0 (Nat.le_of_eq g1.symm)
  have sb1 : h0.size ≤ b1 := Nat.le_trans K0.1 (Nat.le_of_eq g1.symm)
  have Z1 := Nat.le_trans Z0 E1.1
  have K1 := Keep.ext K0 E1
  have F1_parents : Fld Z h1 b1 "com/example/surety/surety/Search" "parents" "[I" .null := D1 (Or.inl (hw _ (List.mem_of_getElem? (i := 35) rfl))) (ty := (.array .int)) (by decide)
  have F1_actions : Fld Z h1 b1 "com/example/surety/surety/Search" "actions" "[I" .null := D1 (Or.inl (hw _ (List.mem_of_getElem? (i := 37) rfl))) (ty := (.array .int)) (by decide)
  have F1_reached : Fld Z h1 b1 "com/example/surety/surety/Search" "reached" "I" (.int (0 : Int32)) := D1 (Or.inl (hw _ (List.mem_of_getElem? (i := 39) rfl))) (ty := .int) (by decide)
  have F1_firstStuck : Fld Z h1 b1 "com/example/surety/surety/Search" "firstStuck" "I" (.int (0 : Int32)) := D1 (Or.inl (hw _ (List.mem_of_getElem? (i := 41) rfl))) (ty := .int) (by decide)
  have F1_secondStuck : Fld Z h1 b1 "com/example/surety/surety/Search" "secondStuck" "I" (.int (0 : Int32)) := D1 (Or.inl (hw _ (List.mem_of_getElem? (i := 43) rfl))) (ty := .int) (by decide)
  have F1_alphabet : Fld Z h1 b1 "com/example/surety/surety/Search" "alphabet" "Ljava/util/List;" .null := D1 (Or.inr (hw _ (List.mem_of_getElem? (i := 45) rfl))) (ty := (.object "java/util/List")) (by decide)
  have F1_outgoing : Fld Z h1 b1 "com/example/surety/surety/Search" "outgoing" "I" (.int (0 : Int32)) := D1 (Or.inl (hw _ (List.mem_of_getElem? (i := 56) rfl))) (ty := .int) (by decide)
  have F1_terminated : Fld Z h1 b1 "com/example/surety/surety/Search" "terminated" "Z" (.int (0 : Int32)) := D1 (Or.inl (hw _ (List.mem_of_getElem? (i := 58) rfl))) (ty := .boolean) (by decide)
  have F1_state : Fld Z h1 b1 "com/example/surety/surety/Search" "state" "I" (.int (0 : Int32)) := D1 (Or.inl (hw _ (List.mem_of_getElem? (i := 60) rfl))) (ty := .int) (by decide)
  have F1_transitions : Fld Z h1 b1 "com/example/surety/surety/Search" "transitions" "J" (.long (0 : Int64)) := D1 (Or.inl (hw _ (List.mem_of_getElem? (i := 77) rfl))) (ty := .long) (by decide)
  refine Goes.go st1 ?_
  show Goes p e below s _ _ _ (T1.setTop (mkF m 21 #[.val (.int p0), .val (.int p1), .val (.int p2), .val (.int k0), .val (.int k1), .val (.int k2), .unset, .unset, .unset, .unset] [(.ref b1)]))
  refine Goes.go (fun _ kst => XS.dup X1.here hx rfl (hb hby at_21) rfl rfl kst) ?_
  show Goes p e below s _ _ _ (T1.setTop (mkF m 22 #[.val (.int p0), .val (.int p1), .val (.int p2), .val (.int k0), .val (.int k1), .val (.int k2), .unset, .unset, .unset, .unset] [(.ref b1), (.ref b1)]))
  obtain ⟨T2, h2, X2, e2, E2, A2, D2, -, st2⟩ := newO X1 hx hZ hown (hw _ (List.mem_of_getElem? (i := 3) rfl)) (hw _ (List.mem_of_getElem? (i := 4) rfl)) (hw _ (List.mem_of_getElem? (i := 5) rfl)) e1 (g := (mkF m 22 #[.val (.int p0), .val (.int p1), .val (.int p2), .val (.int k0), .val (.int k1), .val (.int k2), .unset, .unset, .unset, .unset] [(.ref b1), (.ref b1)])) rfl (hb hby at_22) (by decide) (by decide)
  obtain ⟨b2, g2⟩ : ∃ z, z = h1.size := ⟨_, rfl⟩
  rw [← g2] at A2 D2 st2
  have gb2 : n0 ≤ b2 := Nat.le_trans Z1 (Nat.le_of_eq g2.symm)
  have sb2 : h0.size ≤ b2 := Nat.le_trans K1.1 (Nat.le_of_eq g2.symm)
  have Z2 := Nat.le_trans Z1 E2.1
  have K2 := Keep.ext K1 E2
  have F2_modCount : Fld Z h2 b2 "java/util/AbstractList" "modCount" "I" (.int (0 : Int32)) := D2 (Or.inl (hw _ (List.mem_of_getElem? (i := 25) rfl))) (ty := .int) (by decide)
  have F2_elementData : Fld Z h2 b2 "java/util/ArrayList" "elementData" "[Ljava/lang/Object;" .null := D2 (Or.inl (hw _ (List.mem_of_getElem? (i := 28) rfl))) (ty := (.array (.object "java/lang/Object"))) (by decide)
  refine Goes.go st2 ?_
  show Goes p e below s _ _ _ (T2.setTop (mkF m 25 #[.val (.int p0), .val (.int p1), .val (.int p2), .val (.int k0), .val (.int k1), .val (.int k2), .unset, .unset, .unset, .unset] [(.ref b2), (.ref b1), (.ref b1)]))
  refine Goes.go (fun _ kst => XS.dup X2.here hx rfl (hb hby at_25) rfl rfl kst) ?_
  show Goes p e below s _ _ _ (T2.setTop (mkF m 26 #[.val (.int p0), .val (.int p1), .val (.int p2), .val (.int k0), .val (.int k1), .val (.int k2), .unset, .unset, .unset, .unset] [(.ref b2), (.ref b2), (.ref b1), (.ref b1)]))
  obtain ⟨_, _, ⟨T3, L3, k3, n3⟩, -, X3, ⟨Lc3, hQ3, l3, y3, z3⟩, st3⟩ := X2.specialBack hx (y := (⟨"java/util/ArrayList", "<init>", "()V"⟩ : MethodName)) rfl hown (mvT hZ (hw _ (List.mem_of_getElem? (i := 6) rfl))) (mvT hZ (hw _ (List.mem_of_getElem? (i := 7) rfl))) (mvT hZ (hw _ (List.mem_of_getElem? (i := 8) rfl))) (by decide) (backOf (W := 3) (rm1 l Z a0 hw [] b2 dc h2 n0 Z2 A2 gb2 F2_modCount F2_elementData (S_DEFAULTCAPACITY_EMPTY_ELEMENTDATA.ext (own_kx K2))) hZ (hw _ (List.mem_of_getElem? (i := 8) rfl)) (hw _ (List.mem_of_getElem? (i := 5) rfl)) (by decide) (by decide)) (g := (mkF m 26 #[.val (.int p0), .val (.int p1), .val (.int p2), .val (.int k0), .val (.int k1), .val (.int k2), .unset, .unset, .unset, .unset] [(.ref b2), (.ref b2), (.ref b1), (.ref b1)])) rfl (by rw [hml]; rfl) (Steps.refl _) (a := b2) (argsL := []) (rest := [(.ref b2), (.ref b1), (.ref b1)]) (lenOf pd_0 rfl) rfl (by show 2 * 0 + _ ≤ _; exact Nat.le_of_eq rfl) (hb hby at_26) (fun _ _ => ⟨rfl, e2, (by decide : 2 + 0 ≤ _), (by decide : 13 + 0 ≤ _)⟩)
  dsimp only [Pt.U, Pt.locs, Pt.cells, Pt.slots] at X3 l3 y3 z3 st3 hQ3
  subst l3 y3 z3
  obtain ⟨h3, e3⟩ : ∃ z, T3.heap = z := ⟨_, rfl⟩
  rw [e3] at hQ3
  obtain ⟨rfl, N3q, Kq3, G3_0⟩ := hQ3
  have N3 := Fr.app N0 N3q
  have K3 := Keep.trans K2 Kq3 (allS (Or.inr sb2) all0)
  have Z3 := Nat.le_trans Z2 Kq3.1
  refine Goes.tr st3 ?_
  show Goes p e below s _ _ _ (T3.setTop (mkF m 29 #[.val (.int p0), .val (.int p1), .val (.int p2), .val (.int k0), .val (.int k1), .val (.int k2), .unset, .unset, .unset, .unset] [(.ref b2), (.ref b1), (.ref b1)]))
  obtain ⟨_, _, ⟨T4, L4, k4, n4⟩, -, X4, ⟨Lc4, hQ4, l4, y4, z4⟩, st4⟩ := X3.specialBack hx (y := (⟨"com/example/surety/surety/Search", "<init>", "(Ljava/util/List;)V"⟩ : MethodName)) rfl hown (mvT hZ (hw _ (List.mem_of_getElem? (i := 29) rfl))) (mvT hZ (hw _ (List.mem_of_getElem? (i := 30) rfl))) (mvT hZ (hw _ (List.mem_of_getElem? (i := 31) rfl))) (by decide) (backOf (W := 1) (rm5 l Z a0 hw [] b1 b2 h3 n0 Z3 ((A1.ext E2).keep Kq3) gb1 ((F1_parents.ext E2).keep Kq3 (ninS (Nat.ne_of_lt (Nat.lt_of_lt_of_le A1.lt (Nat.le_of_eq g2.symm))) nin0)) ((F1_actions.ext E2).keep Kq3 (ninS (Nat.ne_of_lt (Nat.lt_of_lt_of_le A1.lt (Nat.le_of_eq g2.symm))) nin0)) ((F1_reached.ext E2).keep Kq3 (ninS (Nat.ne_of_lt (Nat.lt_of_lt_of_le A1.lt (Nat.le_of_eq g2.symm))) nin0)) ((F1_firstStuck.ext E2).keep Kq3 (ninS (Nat.ne_of_lt (Nat.lt_of_lt_of_le A1.lt (Nat.le_of_eq g2.symm))) nin0)) ((F1_secondStuck.ext E2).keep Kq3 (ninS (Nat.ne_of_lt (Nat.lt_of_lt_of_le A1.lt (Nat.le_of_eq g2.symm))) nin0)) ((F1_alphabet.ext E2).keep Kq3 (ninS (Nat.ne_of_lt (Nat.lt_of_lt_of_le A1.lt (Nat.le_of_eq g2.symm))) nin0)) ((F1_outgoing.ext E2).keep Kq3 (ninS (Nat.ne_of_lt (Nat.lt_of_lt_of_le A1.lt (Nat.le_of_eq g2.symm))) nin0)) ((F1_terminated.ext E2).keep Kq3 (ninS (Nat.ne_of_lt (Nat.lt_of_lt_of_le A1.lt (Nat.le_of_eq g2.symm))) nin0)) ((F1_state.ext E2).keep Kq3 (ninS (Nat.ne_of_lt (Nat.lt_of_lt_of_le A1.lt (Nat.le_of_eq g2.symm))) nin0)) ((F1_transitions.ext E2).keep Kq3 (ninS (Nat.ne_of_lt (Nat.lt_of_lt_of_le A1.lt (Nat.le_of_eq g2.symm))) nin0))) hZ (hw _ (List.mem_of_getElem? (i := 31) rfl)) (hw _ (List.mem_of_getElem? (i := 2) rfl)) (by decide) (by decide)) (g := (mkF m 29 #[.val (.int p0), .val (.int p1), .val (.int p2), .val (.int k0), .val (.int k1), .val (.int k2), .unset, .unset, .unset, .unset] [(.ref b2), (.ref b1), (.ref b1)])) rfl (by rw [hml]; rfl) (Steps.refl _) (a := b1) (argsL := [(.ref b2)]) (rest := [(.ref b1)]) (lenOf pd_2 rfl) rfl (by show 2 * 0 + _ ≤ _; exact Nat.le_of_eq rfl) (hb hby at_29) (fun _ _ => ⟨rfl, e3, (by decide : 2 + 2 ≤ _), (by decide : 13 + 32 ≤ _)⟩)
  dsimp only [Pt.U, Pt.locs, Pt.cells, Pt.slots] at X4 l4 y4 z4 st4 hQ4
  subst l4 y4 z4
  obtain ⟨h4, e4⟩ : ∃ z, T4.heap = z := ⟨_, rfl⟩
  rw [e4] at hQ4
  obtain ⟨rfl, N4q, Kq4, G4_0, G4_1, G4_2, G4_3, G4_4, G4_5, G4_6, G4_7⟩ := hQ4
  have N4 := Fr.app N3 N4q
  have K4 := Keep.trans K3 Kq4 (allS (Or.inr sb1) all0)
  have Z4 := Nat.le_trans Z3 Kq4.1
  refine Goes.tr st4 ?_
  show Goes p e below s _ _ _ (T4.setTop (mkF m 32 #[.val (.int p0), .val (.int p1), .val (.int p2), .val (.int k0), .val (.int k1), .val (.int k2), .unset, .unset, .unset, .unset] [(.ref b1)]))
  refine Goes.go (fun _ kst => XS.astore X4.here hx rfl (hb hby at_32) rfl rfl (l' := #[.val (.int p0), .val (.int p1), .val (.int p2), .val (.int k0), .val (.int k1), .val (.int k2), .val (.ref b1), .unset, .unset, .unset]) rfl kst) ?_
  show Goes p e below s _ _ _ (T4.setTop (mkF m 34 #[.val (.int p0), .val (.int p1), .val (.int p2), .val (.int k0), .val (.int k1), .val (.int k2), .val (.ref b1), .unset, .unset, .unset] []))
  refine Goes.go (fun _ kst => XS.aload X4.here hx rfl (hb hby at_34) rfl rfl  kst) ?_
  show Goes p e below s _ _ _ (T4.setTop (mkF m 36 #[.val (.int p0), .val (.int p1), .val (.int p2), .val (.int k0), .val (.int k1), .val (.int k2), .val (.ref b1), .unset, .unset, .unset] [(.ref b1)]))
  refine Goes.go (fun _ kst => XS.iloadN X4.here hx rfl (hb hby at_36) rfl  kst) ?_
  show Goes p e below s _ _ _ (T4.setTop (mkF m 37 #[.val (.int p0), .val (.int p1), .val (.int p2), .val (.int k0), .val (.int k1), .val (.int k2), .val (.ref b1), .unset, .unset, .unset] [(.int k0), (.ref b1)]))
  refine Goes.go (fun _ kst => XS.iloadN X4.here hx rfl (hb hby at_37) rfl  kst) ?_
  show Goes p e below s _ _ _ (T4.setTop (mkF m 38 #[.val (.int p0), .val (.int p1), .val (.int p2), .val (.int k0), .val (.int k1), .val (.int k2), .val (.ref b1), .unset, .unset, .unset] [(.int p1), (.int k0), (.ref b1)]))
  obtain ⟨_, _, ⟨T5, L5, k5, n5⟩, -, X5, ⟨Lc5, hQ5, l5, y5, z5⟩, st5⟩ := Jvm.LawKit.callS X4 hx (y := (⟨"com/example/surety/surety/SearchEndStatePinLaw", "handState", "(Lcom/example/surety/surety/Search;II)V"⟩ : MethodName)) hown (mvT hZ (hw _ (List.mem_of_getElem? (i := 46) rfl))) (mvT hZ (hw _ (List.mem_of_getElem? (i := 47) rfl))) (mvT hZ (hw _ (List.mem_of_getElem? (i := 48) rfl))) (mvT hZ (hw _ (List.mem_of_getElem? (i := 49) rfl))) (by decide) (backOf (W := 0) (rm6 l Z a0 hw [] b1 k0 p1 (1 : Int32) (0 : Int32) (0 : Int32) (0 : Int32) (0 : Int64) (-1 : Int32) (-1 : Int32) h4 n0 Z4 G4_0 gb1 G4_1 G4_2 G4_3 G4_4 G4_5 G4_6 G4_7 (by decide)) hZ (hw _ (List.mem_of_getElem? (i := 49) rfl)) (hw _ (List.mem_of_getElem? (i := 48) rfl)) (by decide) (by decide)) (g := (mkF m 38 #[.val (.int p0), .val (.int p1), .val (.int p2), .val (.int k0), .val (.int k1), .val (.int k2), .val (.ref b1), .unset, .unset, .unset] [(.int p1), (.int k0), (.ref b1)])) rfl (by rw [hml]; rfl) (argsL := [(.ref b1), (.int k0), (.int p1)]) (rest := []) (lenOf pd_3 rfl) rfl (by show 2 * 0 + _ ≤ _; exact Nat.le_of_eq rfl) (hb hby at_38) (fun _ _ => ⟨rfl, e4, (by decide : 4 + 0 ≤ _), (by decide : 45 + 0 ≤ _)⟩)
  dsimp only [Pt.U, Pt.locs, Pt.cells, Pt.slots] at X5 l5 y5 z5 st5 hQ5
  subst l5 y5 z5
  obtain ⟨h5, e5⟩ : ∃ z, T5.heap = z := ⟨_, rfl⟩
  rw [e5] at hQ5
  obtain ⟨rfl, N5q, Kq5, G5_0, G5_1, G5_2, G5_3, G5_4, G5_5, G5_6, G5_7⟩ := hQ5
  have N5 := Fr.app N4 N5q
  have K5 := Keep.trans K4 Kq5 (allS (Or.inr sb1) all0)
  have Z5 := Nat.le_trans Z4 Kq5.1
  refine Goes.go st5 ?_
  have Fz1 := G5_4
  rw [show (nar .boolean (0 : Int32)) = (0 : Int32) from rfl] at Fz1
  have Fn6 := G5_6
  rw [own_6] at Fn6
  generalize e_a1 : G6 k0 (0 : Int32) (-1 : Int32) = a1 at Fn6
  have Fn7 := G5_7
  rw [own_7] at Fn7
  generalize e_b1' : G7 k0 (0 : Int32) (-1 : Int32) (-1 : Int32) = b1' at Fn7
  have Fn8 := G5_2
  generalize e_s1 : ((0 : Int32) + (1 : Int32)) = s1 at Fn8
  have Fn9 := G5_5
  generalize e_t1 : (g_rm6_5 b1 k0 p1 (1 : Int32) (0 : Int32) (0 : Int32) (0 : Int32) (0 : Int64) (-1 : Int32) (-1 : Int32)) = t1 at Fn9
  show Goes p e below s _ _ _ (T5.setTop (mkF m 41 #[.val (.int p0), .val (.int p1), .val (.int p2), .val (.int k0), .val (.int k1), .val (.int k2), .val (.ref b1), .unset, .unset, .unset] []))
  refine Goes.go (fun _ kst => XS.aload X5.here hx rfl (hb hby at_41) rfl rfl  kst) ?_
  show Goes p e below s _ _ _ (T5.setTop (mkF m 43 #[.val (.int p0), .val (.int p1), .val (.int p2), .val (.int k0), .val (.int k1), .val (.int k2), .val (.ref b1), .unset, .unset, .unset] [(.ref b1)]))
  refine Goes.go (fun _ kst => XS.iload X5.here hx rfl (hb hby at_43) rfl  kst) ?_
  show Goes p e below s _ _ _ (T5.setTop (mkF m 45 #[.val (.int p0), .val (.int p1), .val (.int p2), .val (.int k0), .val (.int k1), .val (.int k2), .val (.ref b1), .unset, .unset, .unset] [(.int k1), (.ref b1)]))
  refine Goes.go (fun _ kst => XS.iloadN X5.here hx rfl (hb hby at_45) rfl  kst) ?_
  show Goes p e below s _ _ _ (T5.setTop (mkF m 46 #[.val (.int p0), .val (.int p1), .val (.int p2), .val (.int k0), .val (.int k1), .val (.int k2), .val (.ref b1), .unset, .unset, .unset] [(.int p1), (.int k1), (.ref b1)]))
  obtain ⟨_, _, ⟨T10, L10, k10, n10⟩, -, X10, ⟨Lc10, hQ10, l10, y10, z10⟩, st10⟩ := Jvm.LawKit.callS X5 hx (y := (⟨"com/example/surety/surety/SearchEndStatePinLaw", "handState", "(Lcom/example/surety/surety/Search;II)V"⟩ : MethodName)) hown (mvT hZ (hw _ (List.mem_of_getElem? (i := 46) rfl))) (mvT hZ (hw _ (List.mem_of_getElem? (i := 47) rfl))) (mvT hZ (hw _ (List.mem_of_getElem? (i := 48) rfl))) (mvT hZ (hw _ (List.mem_of_getElem? (i := 49) rfl))) (by decide) (backOf (W := 0) (rm6 l Z a0 hw [] b1 k1 p1 (1 : Int32) s1 (0 : Int32) (0 : Int32) t1 a1 b1' h5 n0 Z5 G5_0 gb1 G5_1 Fn8 G5_3 Fz1 Fn9 Fn6 Fn7 (by decide)) hZ (hw _ (List.mem_of_getElem? (i := 49) rfl)) (hw _ (List.mem_of_getElem? (i := 48) rfl)) (by decide) (by decide)) (g := (mkF m 46 #[.val (.int p0), .val (.int p1), .val (.int p2), .val (.int k0), .val (.int k1), .val (.int k2), .val (.ref b1), .unset, .unset, .unset] [(.int p1), (.int k1), (.ref b1)])) rfl (by rw [hml]; rfl) (argsL := [(.ref b1), (.int k1), (.int p1)]) (rest := []) (lenOf pd_3 rfl) rfl (by show 2 * 0 + _ ≤ _; exact Nat.le_of_eq rfl) (hb hby at_46) (fun _ _ => ⟨rfl, e5, (by decide : 4 + 0 ≤ _), (by decide : 45 + 0 ≤ _)⟩)
  dsimp only [Pt.U, Pt.locs, Pt.cells, Pt.slots] at X10 l10 y10 z10 st10 hQ10
  subst l10 y10 z10
  obtain ⟨h10, e10⟩ : ∃ z, T10.heap = z := ⟨_, rfl⟩
  rw [e10] at hQ10
  obtain ⟨rfl, N10q, Kq10, G10_0, G10_1, G10_2, G10_3, G10_4, G10_5, G10_6, G10_7⟩ := hQ10
  have N10 := Fr.app N5 N10q
  have K10 := Keep.trans K5 Kq10 (allS (Or.inr sb1) all0)
  have Z10 := Nat.le_trans Z5 Kq10.1
  refine Goes.go st10 ?_
  have Fz2 := G10_4
  rw [show (nar .boolean (0 : Int32)) = (0 : Int32) from rfl] at Fz2
  have Fn11 := G10_6
  rw [own_6] at Fn11
  generalize e_a2 : G6 k1 s1 a1 = a2 at Fn11
  have Fn12 := G10_7
  rw [own_7] at Fn12
  generalize e_b2' : G7 k1 s1 a1 b1' = b2' at Fn12
  have Fn13 := G10_2
  generalize e_s2 : (s1 + (1 : Int32)) = s2 at Fn13
  have Fn14 := G10_5
  generalize e_t2 : (g_rm6_5 b1 k1 p1 (1 : Int32) s1 (0 : Int32) (0 : Int32) t1 a1 b1') = t2 at Fn14
  show Goes p e below s _ _ _ (T10.setTop (mkF m 49 #[.val (.int p0), .val (.int p1), .val (.int p2), .val (.int k0), .val (.int k1), .val (.int k2), .val (.ref b1), .unset, .unset, .unset] []))
  refine Goes.go (fun _ kst => XS.aload X10.here hx rfl (hb hby at_49) rfl rfl  kst) ?_
  show Goes p e below s _ _ _ (T10.setTop (mkF m 51 #[.val (.int p0), .val (.int p1), .val (.int p2), .val (.int k0), .val (.int k1), .val (.int k2), .val (.ref b1), .unset, .unset, .unset] [(.ref b1)]))
  refine Goes.go (fun _ kst => XS.iload X10.here hx rfl (hb hby at_51) rfl  kst) ?_
  show Goes p e below s _ _ _ (T10.setTop (mkF m 53 #[.val (.int p0), .val (.int p1), .val (.int p2), .val (.int k0), .val (.int k1), .val (.int k2), .val (.ref b1), .unset, .unset, .unset] [(.int k2), (.ref b1)]))
  refine Goes.go (fun _ kst => XS.iloadN X10.here hx rfl (hb hby at_53) rfl  kst) ?_
  show Goes p e below s _ _ _ (T10.setTop (mkF m 54 #[.val (.int p0), .val (.int p1), .val (.int p2), .val (.int k0), .val (.int k1), .val (.int k2), .val (.ref b1), .unset, .unset, .unset] [(.int p1), (.int k2), (.ref b1)]))
  obtain ⟨_, _, ⟨T15, L15, k15, n15⟩, -, X15, ⟨Lc15, hQ15, l15, y15, z15⟩, st15⟩ := Jvm.LawKit.callS X10 hx (y := (⟨"com/example/surety/surety/SearchEndStatePinLaw", "handState", "(Lcom/example/surety/surety/Search;II)V"⟩ : MethodName)) hown (mvT hZ (hw _ (List.mem_of_getElem? (i := 46) rfl))) (mvT hZ (hw _ (List.mem_of_getElem? (i := 47) rfl))) (mvT hZ (hw _ (List.mem_of_getElem? (i := 48) rfl))) (mvT hZ (hw _ (List.mem_of_getElem? (i := 49) rfl))) (by decide) (backOf (W := 0) (rm6 l Z a0 hw [] b1 k2 p1 (1 : Int32) s2 (0 : Int32) (0 : Int32) t2 a2 b2' h10 n0 Z10 G10_0 gb1 G10_1 Fn13 G10_3 Fz2 Fn14 Fn11 Fn12 (by decide)) hZ (hw _ (List.mem_of_getElem? (i := 49) rfl)) (hw _ (List.mem_of_getElem? (i := 48) rfl)) (by decide) (by decide)) (g := (mkF m 54 #[.val (.int p0), .val (.int p1), .val (.int p2), .val (.int k0), .val (.int k1), .val (.int k2), .val (.ref b1), .unset, .unset, .unset] [(.int p1), (.int k2), (.ref b1)])) rfl (by rw [hml]; rfl) (argsL := [(.ref b1), (.int k2), (.int p1)]) (rest := []) (lenOf pd_3 rfl) rfl (by show 2 * 0 + _ ≤ _; exact Nat.le_of_eq rfl) (hb hby at_54) (fun _ _ => ⟨rfl, e10, (by decide : 4 + 0 ≤ _), (by decide : 45 + 0 ≤ _)⟩)
  dsimp only [Pt.U, Pt.locs, Pt.cells, Pt.slots] at X15 l15 y15 z15 st15 hQ15
  subst l15 y15 z15
  obtain ⟨h15, e15⟩ : ∃ z, T15.heap = z := ⟨_, rfl⟩
  rw [e15] at hQ15
  obtain ⟨rfl, N15q, Kq15, G15_0, G15_1, G15_2, G15_3, G15_4, G15_5, G15_6, G15_7⟩ := hQ15
  have N15 := Fr.app N10 N15q
  have K15 := Keep.trans K10 Kq15 (allS (Or.inr sb1) all0)
  have Z15 := Nat.le_trans Z10 Kq15.1
  refine Goes.go st15 ?_
  have Fz3 := G15_4
  rw [show (nar .boolean (0 : Int32)) = (0 : Int32) from rfl] at Fz3
  have Fn16 := G15_6
  rw [own_6] at Fn16
  generalize e_a3 : G6 k2 s2 a2 = a3 at Fn16
  have Fn17 := G15_7
  rw [own_7] at Fn17
  generalize e_b3' : G7 k2 s2 a2 b2' = b3' at Fn17
  have Fn18 := G15_2
  generalize e_s3 : (s2 + (1 : Int32)) = s3 at Fn18
  have Fn19 := G15_5
  generalize e_t3 : (g_rm6_5 b1 k2 p1 (1 : Int32) s2 (0 : Int32) (0 : Int32) t2 a2 b2') = t3 at Fn19
  show Goes p e below s _ _ _ (T15.setTop (mkF m 57 #[.val (.int p0), .val (.int p1), .val (.int p2), .val (.int k0), .val (.int k1), .val (.int k2), .val (.ref b1), .unset, .unset, .unset] []))
  refine Goes.go (fun _ kst => XS.iconst X15.here hx rfl (hb hby at_57) kst) ?_
  show Goes p e below s _ _ _ (T15.setTop (mkF m 58 #[.val (.int p0), .val (.int p1), .val (.int p2), .val (.int k0), .val (.int k1), .val (.int k2), .val (.ref b1), .unset, .unset, .unset] [(.int (-1 : Int32))]))
  refine Goes.go (fun _ kst => XS.istore X15.here hx rfl (hb hby at_58) rfl (l' := #[.val (.int p0), .val (.int p1), .val (.int p2), .val (.int k0), .val (.int k1), .val (.int k2), .val (.ref b1), .val (.int (-1 : Int32)), .unset, .unset]) rfl kst) ?_
  show Goes p e below s _ _ _ (T15.setTop (mkF m 60 #[.val (.int p0), .val (.int p1), .val (.int p2), .val (.int k0), .val (.int k1), .val (.int k2), .val (.ref b1), .val (.int (-1 : Int32)), .unset, .unset] []))
  refine Goes.go (fun _ kst => XS.iconst X15.here hx rfl (hb hby at_60) kst) ?_
  show Goes p e below s _ _ _ (T15.setTop (mkF m 61 #[.val (.int p0), .val (.int p1), .val (.int p2), .val (.int k0), .val (.int k1), .val (.int k2), .val (.ref b1), .val (.int (-1 : Int32)), .unset, .unset] [(.int (-1 : Int32))]))
  refine Goes.go (fun _ kst => XS.istore X15.here hx rfl (hb hby at_61) rfl (l' := #[.val (.int p0), .val (.int p1), .val (.int p2), .val (.int k0), .val (.int k1), .val (.int k2), .val (.ref b1), .val (.int (-1 : Int32)), .val (.int (-1 : Int32)), .unset]) rfl kst) ?_
  show Goes p e below s _ _ _ (T15.setTop (mkF m 63 #[.val (.int p0), .val (.int p1), .val (.int p2), .val (.int k0), .val (.int k1), .val (.int k2), .val (.ref b1), .val (.int (-1 : Int32)), .val (.int (-1 : Int32)), .unset] []))
  refine Goes.go (fun _ kst => XS.iloadN X15.here hx rfl (hb hby at_63) rfl  kst) ?_
  show Goes p e below s _ _ _ (T15.setTop (mkF m 64 #[.val (.int p0), .val (.int p1), .val (.int p2), .val (.int k0), .val (.int k1), .val (.int k2), .val (.ref b1), .val (.int (-1 : Int32)), .val (.int (-1 : Int32)), .unset] [(.int k0)]))
  obtain ⟨z20_l7, hz20_l7⟩ : ∃ z : Int32, z = if k0 = (0 : Int32) then (0 : Int32) else (-1 : Int32) := ⟨_, rfl⟩
  have sm20 : ∀ t, Steps p.tables e below (T15.setTop (mkF m 70 #[.val (.int p0), .val (.int p1), .val (.int p2), .val (.int k0), .val (.int k1), .val (.int k2), .val (.ref b1), .val (.int z20_l7), .val (.int (-1 : Int32)), .unset] [])) t → Steps p.tables e below (T15.setTop (mkF m 64 #[.val (.int p0), .val (.int p1), .val (.int p2), .val (.int k0), .val (.int k1), .val (.int k2), .val (.ref b1), .val (.int (-1 : Int32)), .val (.int (-1 : Int32)), .unset] [(.int k0)])) t := by
    intro t kst
    by_cases hc64_20 : k0 = (0 : Int32)
    · have kst2 : Steps p.tables e below (T15.setTop (mkF m 70 #[.val (.int p0), .val (.int p1), .val (.int p2), .val (.int k0), .val (.int k1), .val (.int k2), .val (.ref b1), .val (.int (0 : Int32)), .val (.int (-1 : Int32)), .unset] [])) t := by simpa only [hz20_l7, if_pos hc64_20] using kst
      show Steps p.tables e below (T15.setTop (mkF m 64 #[.val (.int p0), .val (.int p1), .val (.int p2), .val (.int k0), .val (.int k1), .val (.int k2), .val (.ref b1), .val (.int (-1 : Int32)), .val (.int (-1 : Int32)), .unset] [(.int k0)])) _
      refine XS.ifNo X15.here hx rfl (hb hby at_64) rfl ((if0 _ _).trans (teq hc64_20).2) ?_
      show Steps p.tables e below (T15.setTop (mkF m 67 #[.val (.int p0), .val (.int p1), .val (.int p2), .val (.int k0), .val (.int k1), .val (.int k2), .val (.ref b1), .val (.int (-1 : Int32)), .val (.int (-1 : Int32)), .unset] [])) _
      refine XS.iconst X15.here hx rfl (hb hby at_67) ?_
      show Steps p.tables e below (T15.setTop (mkF m 68 #[.val (.int p0), .val (.int p1), .val (.int p2), .val (.int k0), .val (.int k1), .val (.int k2), .val (.ref b1), .val (.int (-1 : Int32)), .val (.int (-1 : Int32)), .unset] [(.int (0 : Int32))])) _
      refine XS.istore X15.here hx rfl (hb hby at_68) rfl (l' := #[.val (.int p0), .val (.int p1), .val (.int p2), .val (.int k0), .val (.int k1), .val (.int k2), .val (.ref b1), .val (.int (0 : Int32)), .val (.int (-1 : Int32)), .unset]) rfl ?_
      exact kst2
    · have kst2 : Steps p.tables e below (T15.setTop (mkF m 70 #[.val (.int p0), .val (.int p1), .val (.int p2), .val (.int k0), .val (.int k1), .val (.int k2), .val (.ref b1), .val (.int (-1 : Int32)), .val (.int (-1 : Int32)), .unset] [])) t := by simpa only [hz20_l7, if_neg hc64_20] using kst
      show Steps p.tables e below (T15.setTop (mkF m 64 #[.val (.int p0), .val (.int p1), .val (.int p2), .val (.int k0), .val (.int k1), .val (.int k2), .val (.ref b1), .val (.int (-1 : Int32)), .val (.int (-1 : Int32)), .unset] [(.int k0)])) _
      refine XS.ifYes X15.here hx rfl (pc0 := 64) (pc' := 70) rfl (hb hby at_64) rfl ((if0 _ _).trans (feq hc64_20).2) (by decide) (by decide) ?_
      exact kst2
  refine Goes.go sm20 ?_
  show Goes p e below s _ _ _ (T15.setTop (mkF m 70 #[.val (.int p0), .val (.int p1), .val (.int p2), .val (.int k0), .val (.int k1), .val (.int k2), .val (.ref b1), .val (.int z20_l7), .val (.int (-1 : Int32)), .unset] []))
  refine Goes.go (fun _ kst => XS.iload X15.here hx rfl (hb hby at_70) rfl  kst) ?_
  show Goes p e below s _ _ _ (T15.setTop (mkF m 72 #[.val (.int p0), .val (.int p1), .val (.int p2), .val (.int k0), .val (.int k1), .val (.int k2), .val (.ref b1), .val (.int z20_l7), .val (.int (-1 : Int32)), .unset] [(.int k1)]))
  obtain ⟨z21_l7, hz21_l7⟩ : ∃ z : Int32, z = if k1 = (0 : Int32) then (if z20_l7 < (0 : Int32) then (1 : Int32) else z20_l7) else z20_l7 := ⟨_, rfl⟩
  obtain ⟨z21_l8, hz21_l8⟩ : ∃ z : Int32, z = if k1 = (0 : Int32) then (if z20_l7 < (0 : Int32) then (-1 : Int32) else (1 : Int32)) else (-1 : Int32) := ⟨_, rfl⟩
  have sm21 : ∀ t, Steps p.tables e below (T15.setTop (mkF m 89 #[.val (.int p0), .val (.int p1), .val (.int p2), .val (.int k0), .val (.int k1), .val (.int k2), .val (.ref b1), .val (.int z21_l7), .val (.int z21_l8), .unset] [])) t → Steps p.tables e below (T15.setTop (mkF m 72 #[.val (.int p0), .val (.int p1), .val (.int p2), .val (.int k0), .val (.int k1), .val (.int k2), .val (.ref b1), .val (.int z20_l7), .val (.int (-1 : Int32)), .unset] [(.int k1)])) t := by
    intro t kst
    by_cases hc72_21 : k1 = (0 : Int32)
    · have kst2 : Steps p.tables e below (T15.setTop (mkF m 89 #[.val (.int p0), .val (.int p1), .val (.int p2), .val (.int k0), .val (.int k1), .val (.int k2), .val (.ref b1), .val (.int (if z20_l7 < (0 : Int32) then (1 : Int32) else z20_l7)), .val (.int (if z20_l7 < (0 : Int32) then (-1 : Int32) else (1 : Int32))), .unset] [])) t := by simpa only [hz21_l7, hz21_l8, if_pos hc72_21] using kst
      show Steps p.tables e below (T15.setTop (mkF m 72 #[.val (.int p0), .val (.int p1), .val (.int p2), .val (.int k0), .val (.int k1), .val (.int k2), .val (.ref b1), .val (.int z20_l7), .val (.int (-1 : Int32)), .unset] [(.int k1)])) _
      refine XS.ifNo X15.here hx rfl (hb hby at_72) rfl ((if0 _ _).trans (teq hc72_21).2) ?_
      show Steps p.tables e below (T15.setTop (mkF m 75 #[.val (.int p0), .val (.int p1), .val (.int p2), .val (.int k0), .val (.int k1), .val (.int k2), .val (.ref b1), .val (.int z20_l7), .val (.int (-1 : Int32)), .unset] [])) _
      refine XS.iload X15.here hx rfl (hb hby at_75) rfl  ?_
      show Steps p.tables e below (T15.setTop (mkF m 77 #[.val (.int p0), .val (.int p1), .val (.int p2), .val (.int k0), .val (.int k1), .val (.int k2), .val (.ref b1), .val (.int z20_l7), .val (.int (-1 : Int32)), .unset] [(.int z20_l7)])) _
      have sm22 : ∀ t, Steps p.tables e below (T15.setTop (mkF m 89 #[.val (.int p0), .val (.int p1), .val (.int p2), .val (.int k0), .val (.int k1), .val (.int k2), .val (.ref b1), .val (.int (if z20_l7 < (0 : Int32) then (1 : Int32) else z20_l7)), .val (.int (if z20_l7 < (0 : Int32) then (-1 : Int32) else (1 : Int32))), .unset] [])) t → Steps p.tables e below (T15.setTop (mkF m 77 #[.val (.int p0), .val (.int p1), .val (.int p2), .val (.int k0), .val (.int k1), .val (.int k2), .val (.ref b1), .val (.int z20_l7), .val (.int (-1 : Int32)), .unset] [(.int z20_l7)])) t := by
        intro t kst
        by_cases hc77_22 : z20_l7 < (0 : Int32)
        · have kst2 : Steps p.tables e below (T15.setTop (mkF m 89 #[.val (.int p0), .val (.int p1), .val (.int p2), .val (.int k0), .val (.int k1), .val (.int k2), .val (.ref b1), .val (.int (1 : Int32)), .val (.int (-1 : Int32)), .unset] [])) t := by simpa only [if_pos hc77_22] using kst
          show Steps p.tables e below (T15.setTop (mkF m 77 #[.val (.int p0), .val (.int p1), .val (.int p2), .val (.int k0), .val (.int k1), .val (.int k2), .val (.ref b1), .val (.int z20_l7), .val (.int (-1 : Int32)), .unset] [(.int z20_l7)])) _
          refine XS.ifNo X15.here hx rfl (hb hby at_77) rfl ((if0 _ _).trans (tlt hc77_22).2.1) ?_
          show Steps p.tables e below (T15.setTop (mkF m 80 #[.val (.int p0), .val (.int p1), .val (.int p2), .val (.int k0), .val (.int k1), .val (.int k2), .val (.ref b1), .val (.int z20_l7), .val (.int (-1 : Int32)), .unset] [])) _
          refine XS.iconst X15.here hx rfl (hb hby at_80) ?_
          show Steps p.tables e below (T15.setTop (mkF m 81 #[.val (.int p0), .val (.int p1), .val (.int p2), .val (.int k0), .val (.int k1), .val (.int k2), .val (.ref b1), .val (.int z20_l7), .val (.int (-1 : Int32)), .unset] [(.int (1 : Int32))])) _
          refine XS.istore X15.here hx rfl (hb hby at_81) rfl (l' := #[.val (.int p0), .val (.int p1), .val (.int p2), .val (.int k0), .val (.int k1), .val (.int k2), .val (.ref b1), .val (.int (1 : Int32)), .val (.int (-1 : Int32)), .unset]) rfl ?_
          show Steps p.tables e below (T15.setTop (mkF m 83 #[.val (.int p0), .val (.int p1), .val (.int p2), .val (.int k0), .val (.int k1), .val (.int k2), .val (.ref b1), .val (.int (1 : Int32)), .val (.int (-1 : Int32)), .unset] [])) _
          refine XS.goto X15.here hx rfl (pc0 := 83) (pc' := 89) rfl (hb hby at_83) (by decide) (by decide) ?_
          exact kst2
        · have kst2 : Steps p.tables e below (T15.setTop (mkF m 89 #[.val (.int p0), .val (.int p1), .val (.int p2), .val (.int k0), .val (.int k1), .val (.int k2), .val (.ref b1), .val (.int z20_l7), .val (.int (1 : Int32)), .unset] [])) t := by simpa only [if_neg hc77_22] using kst
          show Steps p.tables e below (T15.setTop (mkF m 77 #[.val (.int p0), .val (.int p1), .val (.int p2), .val (.int k0), .val (.int k1), .val (.int k2), .val (.ref b1), .val (.int z20_l7), .val (.int (-1 : Int32)), .unset] [(.int z20_l7)])) _
          refine XS.ifYes X15.here hx rfl (pc0 := 77) (pc' := 86) rfl (hb hby at_77) rfl ((if0 _ _).trans (flt hc77_22).2.1) (by decide) (by decide) ?_
          show Steps p.tables e below (T15.setTop (mkF m 86 #[.val (.int p0), .val (.int p1), .val (.int p2), .val (.int k0), .val (.int k1), .val (.int k2), .val (.ref b1), .val (.int z20_l7), .val (.int (-1 : Int32)), .unset] [])) _
          refine XS.iconst X15.here hx rfl (hb hby at_86) ?_
          show Steps p.tables e below (T15.setTop (mkF m 87 #[.val (.int p0), .val (.int p1), .val (.int p2), .val (.int k0), .val (.int k1), .val (.int k2), .val (.ref b1), .val (.int z20_l7), .val (.int (-1 : Int32)), .unset] [(.int (1 : Int32))])) _
          refine XS.istore X15.here hx rfl (hb hby at_87) rfl (l' := #[.val (.int p0), .val (.int p1), .val (.int p2), .val (.int k0), .val (.int k1), .val (.int k2), .val (.ref b1), .val (.int z20_l7), .val (.int (1 : Int32)), .unset]) rfl ?_
          exact kst2
      refine sm22 _ ?_
      exact kst2
    · have kst2 : Steps p.tables e below (T15.setTop (mkF m 89 #[.val (.int p0), .val (.int p1), .val (.int p2), .val (.int k0), .val (.int k1), .val (.int k2), .val (.ref b1), .val (.int z20_l7), .val (.int (-1 : Int32)), .unset] [])) t := by simpa only [hz21_l7, hz21_l8, if_neg hc72_21] using kst
      show Steps p.tables e below (T15.setTop (mkF m 72 #[.val (.int p0), .val (.int p1), .val (.int p2), .val (.int k0), .val (.int k1), .val (.int k2), .val (.ref b1), .val (.int z20_l7), .val (.int (-1 : Int32)), .unset] [(.int k1)])) _
      refine XS.ifYes X15.here hx rfl (pc0 := 72) (pc' := 89) rfl (hb hby at_72) rfl ((if0 _ _).trans (feq hc72_21).2) (by decide) (by decide) ?_
      exact kst2
  refine Goes.go sm21 ?_
  show Goes p e below s _ _ _ (T15.setTop (mkF m 89 #[.val (.int p0), .val (.int p1), .val (.int p2), .val (.int k0), .val (.int k1), .val (.int k2), .val (.ref b1), .val (.int z21_l7), .val (.int z21_l8), .unset] []))
  refine Goes.go (fun _ kst => XS.iload X15.here hx rfl (hb hby at_89) rfl  kst) ?_
  show Goes p e below s _ _ _ (T15.setTop (mkF m 91 #[.val (.int p0), .val (.int p1), .val (.int p2), .val (.int k0), .val (.int k1), .val (.int k2), .val (.ref b1), .val (.int z21_l7), .val (.int z21_l8), .unset] [(.int k2)]))
  obtain ⟨z23_l7, hz23_l7⟩ : ∃ z : Int32, z = if k2 = (0 : Int32) then (if z21_l7 < (0 : Int32) then (2 : Int32) else z21_l7) else z21_l7 := ⟨_, rfl⟩
  obtain ⟨z23_l8, hz23_l8⟩ : ∃ z : Int32, z = if k2 = (0 : Int32) then (if z21_l7 < (0 : Int32) then z21_l8 else (if z21_l8 < (0 : Int32) then (2 : Int32) else z21_l8)) else z21_l8 := ⟨_, rfl⟩
  have sm23 : ∀ t, Steps p.tables e below (T15.setTop (mkF m 113 #[.val (.int p0), .val (.int p1), .val (.int p2), .val (.int k0), .val (.int k1), .val (.int k2), .val (.ref b1), .val (.int z23_l7), .val (.int z23_l8), .unset] [])) t → Steps p.tables e below (T15.setTop (mkF m 91 #[.val (.int p0), .val (.int p1), .val (.int p2), .val (.int k0), .val (.int k1), .val (.int k2), .val (.ref b1), .val (.int z21_l7), .val (.int z21_l8), .unset] [(.int k2)])) t := by
    intro t kst
    by_cases hc91_23 : k2 = (0 : Int32)
    · have kst2 : Steps p.tables e below (T15.setTop (mkF m 113 #[.val (.int p0), .val (.int p1), .val (.int p2), .val (.int k0), .val (.int k1), .val (.int k2), .val (.ref b1), .val (.int (if z21_l7 < (0 : Int32) then (2 : Int32) else z21_l7)), .val (.int (if z21_l7 < (0 : Int32) then z21_l8 else (if z21_l8 < (0 : Int32) then (2 : Int32) else z21_l8))), .unset] [])) t := by simpa only [hz23_l7, hz23_l8, if_pos hc91_23] using kst
      show Steps p.tables e below (T15.setTop (mkF m 91 #[.val (.int p0), .val (.int p1), .val (.int p2), .val (.int k0), .val (.int k1), .val (.int k2), .val (.ref b1), .val (.int z21_l7), .val (.int z21_l8), .unset] [(.int k2)])) _
      refine XS.ifNo X15.here hx rfl (hb hby at_91) rfl ((if0 _ _).trans (teq hc91_23).2) ?_
      show Steps p.tables e below (T15.setTop (mkF m 94 #[.val (.int p0), .val (.int p1), .val (.int p2), .val (.int k0), .val (.int k1), .val (.int k2), .val (.ref b1), .val (.int z21_l7), .val (.int z21_l8), .unset] [])) _
      refine XS.iload X15.here hx rfl (hb hby at_94) rfl  ?_
      show Steps p.tables e below (T15.setTop (mkF m 96 #[.val (.int p0), .val (.int p1), .val (.int p2), .val (.int k0), .val (.int k1), .val (.int k2), .val (.ref b1), .val (.int z21_l7), .val (.int z21_l8), .unset] [(.int z21_l7)])) _
      have sm24 : ∀ t, Steps p.tables e below (T15.setTop (mkF m 113 #[.val (.int p0), .val (.int p1), .val (.int p2), .val (.int k0), .val (.int k1), .val (.int k2), .val (.ref b1), .val (.int (if z21_l7 < (0 : Int32) then (2 : Int32) else z21_l7)), .val (.int (if z21_l7 < (0 : Int32) then z21_l8 else (if z21_l8 < (0 : Int32) then (2 : Int32) else z21_l8))), .unset] [])) t → Steps p.tables e below (T15.setTop (mkF m 96 #[.val (.int p0), .val (.int p1), .val (.int p2), .val (.int k0), .val (.int k1), .val (.int k2), .val (.ref b1), .val (.int z21_l7), .val (.int z21_l8), .unset] [(.int z21_l7)])) t := by
        intro t kst
        by_cases hc96_24 : z21_l7 < (0 : Int32)
        · have kst2 : Steps p.tables e below (T15.setTop (mkF m 113 #[.val (.int p0), .val (.int p1), .val (.int p2), .val (.int k0), .val (.int k1), .val (.int k2), .val (.ref b1), .val (.int (2 : Int32)), .val (.int z21_l8), .unset] [])) t := by simpa only [if_pos hc96_24] using kst
          show Steps p.tables e below (T15.setTop (mkF m 96 #[.val (.int p0), .val (.int p1), .val (.int p2), .val (.int k0), .val (.int k1), .val (.int k2), .val (.ref b1), .val (.int z21_l7), .val (.int z21_l8), .unset] [(.int z21_l7)])) _
          refine XS.ifNo X15.here hx rfl (hb hby at_96) rfl ((if0 _ _).trans (tlt hc96_24).2.1) ?_
          show Steps p.tables e below (T15.setTop (mkF m 99 #[.val (.int p0), .val (.int p1), .val (.int p2), .val (.int k0), .val (.int k1), .val (.int k2), .val (.ref b1), .val (.int z21_l7), .val (.int z21_l8), .unset] [])) _
          refine XS.iconst X15.here hx rfl (hb hby at_99) ?_
          show Steps p.tables e below (T15.setTop (mkF m 100 #[.val (.int p0), .val (.int p1), .val (.int p2), .val (.int k0), .val (.int k1), .val (.int k2), .val (.ref b1), .val (.int z21_l7), .val (.int z21_l8), .unset] [(.int (2 : Int32))])) _
          refine XS.istore X15.here hx rfl (hb hby at_100) rfl (l' := #[.val (.int p0), .val (.int p1), .val (.int p2), .val (.int k0), .val (.int k1), .val (.int k2), .val (.ref b1), .val (.int (2 : Int32)), .val (.int z21_l8), .unset]) rfl ?_
          show Steps p.tables e below (T15.setTop (mkF m 102 #[.val (.int p0), .val (.int p1), .val (.int p2), .val (.int k0), .val (.int k1), .val (.int k2), .val (.ref b1), .val (.int (2 : Int32)), .val (.int z21_l8), .unset] [])) _
          refine XS.goto X15.here hx rfl (pc0 := 102) (pc' := 113) rfl (hb hby at_102) (by decide) (by decide) ?_
          exact kst2
        · have kst2 : Steps p.tables e below (T15.setTop (mkF m 113 #[.val (.int p0), .val (.int p1), .val (.int p2), .val (.int k0), .val (.int k1), .val (.int k2), .val (.ref b1), .val (.int z21_l7), .val (.int (if z21_l8 < (0 : Int32) then (2 : Int32) else z21_l8)), .unset] [])) t := by simpa only [if_neg hc96_24] using kst
          show Steps p.tables e below (T15.setTop (mkF m 96 #[.val (.int p0), .val (.int p1), .val (.int p2), .val (.int k0), .val (.int k1), .val (.int k2), .val (.ref b1), .val (.int z21_l7), .val (.int z21_l8), .unset] [(.int z21_l7)])) _
          refine XS.ifYes X15.here hx rfl (pc0 := 96) (pc' := 105) rfl (hb hby at_96) rfl ((if0 _ _).trans (flt hc96_24).2.1) (by decide) (by decide) ?_
          show Steps p.tables e below (T15.setTop (mkF m 105 #[.val (.int p0), .val (.int p1), .val (.int p2), .val (.int k0), .val (.int k1), .val (.int k2), .val (.ref b1), .val (.int z21_l7), .val (.int z21_l8), .unset] [])) _
          refine XS.iload X15.here hx rfl (hb hby at_105) rfl  ?_
          show Steps p.tables e below (T15.setTop (mkF m 107 #[.val (.int p0), .val (.int p1), .val (.int p2), .val (.int k0), .val (.int k1), .val (.int k2), .val (.ref b1), .val (.int z21_l7), .val (.int z21_l8), .unset] [(.int z21_l8)])) _
          have sm25 : ∀ t, Steps p.tables e below (T15.setTop (mkF m 113 #[.val (.int p0), .val (.int p1), .val (.int p2), .val (.int k0), .val (.int k1), .val (.int k2), .val (.ref b1), .val (.int z21_l7), .val (.int (if z21_l8 < (0 : Int32) then (2 : Int32) else z21_l8)), .unset] [])) t → Steps p.tables e below (T15.setTop (mkF m 107 #[.val (.int p0), .val (.int p1), .val (.int p2), .val (.int k0), .val (.int k1), .val (.int k2), .val (.ref b1), .val (.int z21_l7), .val (.int z21_l8), .unset] [(.int z21_l8)])) t := by
            intro t kst
            by_cases hc107_25 : z21_l8 < (0 : Int32)
            · have kst2 : Steps p.tables e below (T15.setTop (mkF m 113 #[.val (.int p0), .val (.int p1), .val (.int p2), .val (.int k0), .val (.int k1), .val (.int k2), .val (.ref b1), .val (.int z21_l7), .val (.int (2 : Int32)), .unset] [])) t := by simpa only [if_pos hc107_25] using kst
              show Steps p.tables e below (T15.setTop (mkF m 107 #[.val (.int p0), .val (.int p1), .val (.int p2), .val (.int k0), .val (.int k1), .val (.int k2), .val (.ref b1), .val (.int z21_l7), .val (.int z21_l8), .unset] [(.int z21_l8)])) _
              refine XS.ifNo X15.here hx rfl (hb hby at_107) rfl ((if0 _ _).trans (tlt hc107_25).2.1) ?_
              show Steps p.tables e below (T15.setTop (mkF m 110 #[.val (.int p0), .val (.int p1), .val (.int p2), .val (.int k0), .val (.int k1), .val (.int k2), .val (.ref b1), .val (.int z21_l7), .val (.int z21_l8), .unset] [])) _
              refine XS.iconst X15.here hx rfl (hb hby at_110) ?_
              show Steps p.tables e below (T15.setTop (mkF m 111 #[.val (.int p0), .val (.int p1), .val (.int p2), .val (.int k0), .val (.int k1), .val (.int k2), .val (.ref b1), .val (.int z21_l7), .val (.int z21_l8), .unset] [(.int (2 : Int32))])) _
              refine XS.istore X15.here hx rfl (hb hby at_111) rfl (l' := #[.val (.int p0), .val (.int p1), .val (.int p2), .val (.int k0), .val (.int k1), .val (.int k2), .val (.ref b1), .val (.int z21_l7), .val (.int (2 : Int32)), .unset]) rfl ?_
              exact kst2
            · have kst2 : Steps p.tables e below (T15.setTop (mkF m 113 #[.val (.int p0), .val (.int p1), .val (.int p2), .val (.int k0), .val (.int k1), .val (.int k2), .val (.ref b1), .val (.int z21_l7), .val (.int z21_l8), .unset] [])) t := by simpa only [if_neg hc107_25] using kst
              show Steps p.tables e below (T15.setTop (mkF m 107 #[.val (.int p0), .val (.int p1), .val (.int p2), .val (.int k0), .val (.int k1), .val (.int k2), .val (.ref b1), .val (.int z21_l7), .val (.int z21_l8), .unset] [(.int z21_l8)])) _
              refine XS.ifYes X15.here hx rfl (pc0 := 107) (pc' := 113) rfl (hb hby at_107) rfl ((if0 _ _).trans (flt hc107_25).2.1) (by decide) (by decide) ?_
              exact kst2
          refine sm25 _ ?_
          exact kst2
      refine sm24 _ ?_
      exact kst2
    · have kst2 : Steps p.tables e below (T15.setTop (mkF m 113 #[.val (.int p0), .val (.int p1), .val (.int p2), .val (.int k0), .val (.int k1), .val (.int k2), .val (.ref b1), .val (.int z21_l7), .val (.int z21_l8), .unset] [])) t := by simpa only [hz23_l7, hz23_l8, if_neg hc91_23] using kst
      show Steps p.tables e below (T15.setTop (mkF m 91 #[.val (.int p0), .val (.int p1), .val (.int p2), .val (.int k0), .val (.int k1), .val (.int k2), .val (.ref b1), .val (.int z21_l7), .val (.int z21_l8), .unset] [(.int k2)])) _
      refine XS.ifYes X15.here hx rfl (pc0 := 91) (pc' := 113) rfl (hb hby at_91) rfl ((if0 _ _).trans (feq hc91_23).2) (by decide) (by decide) ?_
      exact kst2
  refine Goes.go sm23 ?_
  show Goes p e below s _ _ _ (T15.setTop (mkF m 113 #[.val (.int p0), .val (.int p1), .val (.int p2), .val (.int k0), .val (.int k1), .val (.int k2), .val (.ref b1), .val (.int z23_l7), .val (.int z23_l8), .unset] []))
  refine Goes.go (fun _ kst => XS.iload X15.here hx rfl (hb hby at_113) rfl  kst) ?_
  show Goes p e below s _ _ _ (T15.setTop (mkF m 115 #[.val (.int p0), .val (.int p1), .val (.int p2), .val (.int k0), .val (.int k1), .val (.int k2), .val (.ref b1), .val (.int z23_l7), .val (.int z23_l8), .unset] [(.int z23_l7)]))
  refine Goes.go (fun _ kst => XS.iloadN X15.here hx rfl (hb hby at_115) rfl  kst) ?_
  show Goes p e below s _ _ _ (T15.setTop (mkF m 116 #[.val (.int p0), .val (.int p1), .val (.int p2), .val (.int k0), .val (.int k1), .val (.int k2), .val (.ref b1), .val (.int z23_l7), .val (.int z23_l8), .unset] [(.int p2), (.int z23_l7)]))
  obtain ⟨z26_s0, hz26_s0⟩ : ∃ z : Int32, z = if z23_l7 = p2 then z23_l8 else z23_l7 := ⟨_, rfl⟩
  have sm26 : ∀ t, Steps p.tables e below (T15.setTop (mkF m 126 #[.val (.int p0), .val (.int p1), .val (.int p2), .val (.int k0), .val (.int k1), .val (.int k2), .val (.ref b1), .val (.int z23_l7), .val (.int z23_l8), .unset] [(.int z26_s0)])) t → Steps p.tables e below (T15.setTop (mkF m 116 #[.val (.int p0), .val (.int p1), .val (.int p2), .val (.int k0), .val (.int k1), .val (.int k2), .val (.ref b1), .val (.int z23_l7), .val (.int z23_l8), .unset] [(.int p2), (.int z23_l7)])) t := by
    intro t kst
    by_cases hc116_26 : z23_l7 = p2
    · have kst2 : Steps p.tables e below (T15.setTop (mkF m 126 #[.val (.int p0), .val (.int p1), .val (.int p2), .val (.int k0), .val (.int k1), .val (.int k2), .val (.ref b1), .val (.int z23_l7), .val (.int z23_l8), .unset] [(.int z23_l8)])) t := by simpa only [hz26_s0, if_pos hc116_26] using kst
      show Steps p.tables e below (T15.setTop (mkF m 116 #[.val (.int p0), .val (.int p1), .val (.int p2), .val (.int k0), .val (.int k1), .val (.int k2), .val (.ref b1), .val (.int z23_l7), .val (.int z23_l8), .unset] [(.int p2), (.int z23_l7)])) _
      refine XS.icmpYes X15.here hx rfl (pc0 := 116) (pc' := 124) rfl (hb hby at_116) rfl (teq hc116_26).1 (by decide) (by decide) ?_
      show Steps p.tables e below (T15.setTop (mkF m 124 #[.val (.int p0), .val (.int p1), .val (.int p2), .val (.int k0), .val (.int k1), .val (.int k2), .val (.ref b1), .val (.int z23_l7), .val (.int z23_l8), .unset] [])) _
      refine XS.iload X15.here hx rfl (hb hby at_124) rfl  ?_
      exact kst2
    · have kst2 : Steps p.tables e below (T15.setTop (mkF m 126 #[.val (.int p0), .val (.int p1), .val (.int p2), .val (.int k0), .val (.int k1), .val (.int k2), .val (.ref b1), .val (.int z23_l7), .val (.int z23_l8), .unset] [(.int z23_l7)])) t := by simpa only [hz26_s0, if_neg hc116_26] using kst
      show Steps p.tables e below (T15.setTop (mkF m 116 #[.val (.int p0), .val (.int p1), .val (.int p2), .val (.int k0), .val (.int k1), .val (.int k2), .val (.ref b1), .val (.int z23_l7), .val (.int z23_l8), .unset] [(.int p2), (.int z23_l7)])) _
      refine XS.icmpNo X15.here hx rfl (hb hby at_116) rfl (feq hc116_26).1 ?_
      show Steps p.tables e below (T15.setTop (mkF m 119 #[.val (.int p0), .val (.int p1), .val (.int p2), .val (.int k0), .val (.int k1), .val (.int k2), .val (.ref b1), .val (.int z23_l7), .val (.int z23_l8), .unset] [])) _
      refine XS.iload X15.here hx rfl (hb hby at_119) rfl  ?_
      show Steps p.tables e below (T15.setTop (mkF m 121 #[.val (.int p0), .val (.int p1), .val (.int p2), .val (.int k0), .val (.int k1), .val (.int k2), .val (.ref b1), .val (.int z23_l7), .val (.int z23_l8), .unset] [(.int z23_l7)])) _
      refine XS.goto X15.here hx rfl (pc0 := 121) (pc' := 126) rfl (hb hby at_121) (by decide) (by decide) ?_
      exact kst2
  refine Goes.go sm26 ?_
  show Goes p e below s _ _ _ (T15.setTop (mkF m 126 #[.val (.int p0), .val (.int p1), .val (.int p2), .val (.int k0), .val (.int k1), .val (.int k2), .val (.ref b1), .val (.int z23_l7), .val (.int z23_l8), .unset] [(.int z26_s0)]))
  refine Goes.go (fun _ kst => XS.istore X15.here hx rfl (hb hby at_126) rfl (l' := #[.val (.int p0), .val (.int p1), .val (.int p2), .val (.int k0), .val (.int k1), .val (.int k2), .val (.ref b1), .val (.int z23_l7), .val (.int z23_l8), .val (.int z26_s0)]) rfl kst) ?_
  have hT : a3 = z23_l7 ∧ b3' = z23_l8 ∧ (z23_l7 = (-1 : Int32) → z23_l8 = (-1 : Int32)) := by
    clear d_k0 d_k1 d_k2
    subst hz23_l8 hz23_l7 hz21_l8 hz21_l7 hz20_l7
    subst e_a3 e_b3' e_a2 e_b2' e_a1 e_b1' e_s2 e_s1
    rcases hk0 with rfl | rfl | rfl | rfl <;> rcases hk1 with rfl | rfl | rfl | rfl <;> rcases hk2 with rfl | rfl | rfl | rfl <;> decide
  obtain ⟨hT1, hT2, hT3⟩ := hT
  show Goes p e below s _ _ _ (T15.setTop (mkF m 128 #[.val (.int p0), .val (.int p1), .val (.int p2), .val (.int k0), .val (.int k1), .val (.int k2), .val (.ref b1), .val (.int z23_l7), .val (.int z23_l8), .val (.int z26_s0)] []))
  refine Goes.go (fun _ kst => XS.aload X15.here hx rfl (hb hby at_128) rfl rfl  kst) ?_
  show Goes p e below s _ _ _ (T15.setTop (mkF m 130 #[.val (.int p0), .val (.int p1), .val (.int p2), .val (.int k0), .val (.int k1), .val (.int k2), .val (.ref b1), .val (.int z23_l7), .val (.int z23_l8), .val (.int z26_s0)] [(.ref b1)]))
  refine Goes.go (fun _ kst => XS.iconst X15.here hx rfl (hb hby at_130) kst) ?_
  show Goes p e below s _ _ _ (T15.setTop (mkF m 131 #[.val (.int p0), .val (.int p1), .val (.int p2), .val (.int k0), .val (.int k1), .val (.int k2), .val (.ref b1), .val (.int z23_l7), .val (.int z23_l8), .val (.int z26_s0)] [(.int (-1 : Int32)), (.ref b1)]))
  obtain ⟨cq27, kq27, q27a, q27b, q27c⟩ := isOf hZ e15 G15_0
  obtain ⟨_, _, ⟨T27, L27, k27, n27⟩, -, X27, ⟨Lc27, hQ27, l27, y27, z27⟩, st27⟩ := X15.virtualBack hx (y := (⟨"com/example/surety/surety/Search", "deadlock", "(I)I"⟩ : MethodName)) (z := (⟨"com/example/surety/surety/Search", "deadlock", "(I)I"⟩ : MethodName)) hown (mvT hZ (hw _ (List.mem_of_getElem? (i := 61) rfl))) (mvT hZ (hw _ (List.mem_of_getElem? (i := 62) rfl))) (notFace_of_selects (args := #[]) (mvT hZ (hw _ (List.mem_of_getElem? (i := 64) rfl)))) (mvT hZ (hw _ (List.mem_of_getElem? (i := 64) rfl))) (mvT hZ (hw _ (List.mem_of_getElem? (i := 63) rfl))) (by decide) (backOf (W := 0) (rm8 l Z a0 hw [] b1 (-1 : Int32) (1 : Int32) s3 (0 : Int32) (0 : Int32) t3 a3 b3' h15 n0 Z15 G15_1 Fn18 G15_3 Fz3 Fn19 Fn16 Fn17) hZ (hw _ (List.mem_of_getElem? (i := 65) rfl)) (hw _ (List.mem_of_getElem? (i := 2) rfl)) (by decide) (by decide)) q27a q27c (g := (mkF m 131 #[.val (.int p0), .val (.int p1), .val (.int p2), .val (.int k0), .val (.int k1), .val (.int k2), .val (.ref b1), .val (.int z23_l7), .val (.int z23_l8), .val (.int z26_s0)] [(.int (-1 : Int32)), (.ref b1)])) rfl (by rw [hml]; rfl) (Steps.refl _) (argsL := [(.int (-1 : Int32))]) (rest := []) (lenOf pd_4 rfl) rfl (by show 2 * 0 + _ ≤ _; exact Nat.le_of_eq rfl) (hb hby at_131) (fun _ _ => ⟨rfl, e15, (by decide : 4 + 0 ≤ _), (by decide : 45 + 0 ≤ _)⟩)
  dsimp only [Pt.U, Pt.locs, Pt.cells, Pt.slots] at X27 l27 y27 z27 st27 hQ27
  subst l27 y27 z27
  obtain ⟨rfl, N27q, e27⟩ := hQ27
  have N27 := Fr.app N15 N27q
  refine Goes.tr st27 ?_
  show Goes p e below s _ _ _ (T27.setTop (mkF m 134 #[.val (.int p0), .val (.int p1), .val (.int p2), .val (.int k0), .val (.int k1), .val (.int k2), .val (.ref b1), .val (.int z23_l7), .val (.int z23_l8), .val (.int z26_s0)] [(.int (f8 b1 (-1 : Int32) (1 : Int32) s3 (0 : Int32) (0 : Int32) t3 a3 b3'))]))
  refine Goes.go (fun _ kst => XS.iload X27.here hx rfl (hb hby at_134) rfl  kst) ?_
  show Goes p e below s _ _ _ (T27.setTop (mkF m 136 #[.val (.int p0), .val (.int p1), .val (.int p2), .val (.int k0), .val (.int k1), .val (.int k2), .val (.ref b1), .val (.int z23_l7), .val (.int z23_l8), .val (.int z26_s0)] [(.int z23_l7), (.int (f8 b1 (-1 : Int32) (1 : Int32) s3 (0 : Int32) (0 : Int32) t3 a3 b3'))]))
  have hc136_28 : (f8 b1 (-1 : Int32) (1 : Int32) s3 (0 : Int32) (0 : Int32) t3 a3 b3') = z23_l7 := by rw [hT1, hT2]; unfold f8; exact own_pick hT3
  refine Goes.go (fun _ kst => XS.icmpNo X27.here hx rfl (hb hby at_136) rfl (teq hc136_28).2 kst) ?_
  show Goes p e below s _ _ _ (T27.setTop (mkF m 139 #[.val (.int p0), .val (.int p1), .val (.int p2), .val (.int k0), .val (.int k1), .val (.int k2), .val (.ref b1), .val (.int z23_l7), .val (.int z23_l8), .val (.int z26_s0)] []))
  refine Goes.go (fun _ kst => XS.aload X27.here hx rfl (hb hby at_139) rfl rfl  kst) ?_
  show Goes p e below s _ _ _ (T27.setTop (mkF m 141 #[.val (.int p0), .val (.int p1), .val (.int p2), .val (.int k0), .val (.int k1), .val (.int k2), .val (.ref b1), .val (.int z23_l7), .val (.int z23_l8), .val (.int z26_s0)] [(.ref b1)]))
  refine Goes.go (fun _ kst => XS.iload X27.here hx rfl (hb hby at_141) rfl  kst) ?_
  show Goes p e below s _ _ _ (T27.setTop (mkF m 143 #[.val (.int p0), .val (.int p1), .val (.int p2), .val (.int k0), .val (.int k1), .val (.int k2), .val (.ref b1), .val (.int z23_l7), .val (.int z23_l8), .val (.int z26_s0)] [(.int z23_l7), (.ref b1)]))
  obtain ⟨cq29, kq29, q29a, q29b, q29c⟩ := isOf hZ e27 G15_0
  obtain ⟨_, _, ⟨T29, L29, k29, n29⟩, -, X29, ⟨Lc29, hQ29, l29, y29, z29⟩, st29⟩ := X27.virtualBack hx (y := (⟨"com/example/surety/surety/Search", "deadlock", "(I)I"⟩ : MethodName)) (z := (⟨"com/example/surety/surety/Search", "deadlock", "(I)I"⟩ : MethodName)) hown (mvT hZ (hw _ (List.mem_of_getElem? (i := 61) rfl))) (mvT hZ (hw _ (List.mem_of_getElem? (i := 62) rfl))) (notFace_of_selects (args := #[]) (mvT hZ (hw _ (List.mem_of_getElem? (i := 64) rfl)))) (mvT hZ (hw _ (List.mem_of_getElem? (i := 64) rfl))) (mvT hZ (hw _ (List.mem_of_getElem? (i := 63) rfl))) (by decide) (backOf (W := 0) (rm8 l Z a0 hw [] b1 z23_l7 (1 : Int32) s3 (0 : Int32) (0 : Int32) t3 a3 b3' h15 n0 Z15 G15_1 Fn18 G15_3 Fz3 Fn19 Fn16 Fn17) hZ (hw _ (List.mem_of_getElem? (i := 65) rfl)) (hw _ (List.mem_of_getElem? (i := 2) rfl)) (by decide) (by decide)) q29a q29c (g := (mkF m 143 #[.val (.int p0), .val (.int p1), .val (.int p2), .val (.int k0), .val (.int k1), .val (.int k2), .val (.ref b1), .val (.int z23_l7), .val (.int z23_l8), .val (.int z26_s0)] [(.int z23_l7), (.ref b1)])) rfl (by rw [hml]; rfl) (Steps.refl _) (argsL := [(.int z23_l7)]) (rest := []) (lenOf pd_4 rfl) rfl (by show 2 * 0 + _ ≤ _; exact Nat.le_of_eq rfl) (hb hby at_143) (fun _ _ => ⟨rfl, e27, (by decide : 4 + 0 ≤ _), (by decide : 45 + 0 ≤ _)⟩)
  dsimp only [Pt.U, Pt.locs, Pt.cells, Pt.slots] at X29 l29 y29 z29 st29 hQ29
  subst l29 y29 z29
  obtain ⟨rfl, N29q, e29⟩ := hQ29
  have N29 := Fr.app N27 N29q
  refine Goes.tr st29 ?_
  show Goes p e below s _ _ _ (T29.setTop (mkF m 146 #[.val (.int p0), .val (.int p1), .val (.int p2), .val (.int k0), .val (.int k1), .val (.int k2), .val (.ref b1), .val (.int z23_l7), .val (.int z23_l8), .val (.int z26_s0)] [(.int (f8 b1 z23_l7 (1 : Int32) s3 (0 : Int32) (0 : Int32) t3 a3 b3'))]))
  refine Goes.go (fun _ kst => XS.iload X29.here hx rfl (hb hby at_146) rfl  kst) ?_
  show Goes p e below s _ _ _ (T29.setTop (mkF m 148 #[.val (.int p0), .val (.int p1), .val (.int p2), .val (.int k0), .val (.int k1), .val (.int k2), .val (.ref b1), .val (.int z23_l7), .val (.int z23_l8), .val (.int z26_s0)] [(.int z23_l8), (.int (f8 b1 z23_l7 (1 : Int32) s3 (0 : Int32) (0 : Int32) t3 a3 b3'))]))
  have hc148_30 : (f8 b1 z23_l7 (1 : Int32) s3 (0 : Int32) (0 : Int32) t3 a3 b3') = z23_l8 := by rw [hT1, hT2]; unfold f8; exact if_pos rfl
  refine Goes.go (fun _ kst => XS.icmpNo X29.here hx rfl (hb hby at_148) rfl (teq hc148_30).2 kst) ?_
  show Goes p e below s _ _ _ (T29.setTop (mkF m 151 #[.val (.int p0), .val (.int p1), .val (.int p2), .val (.int k0), .val (.int k1), .val (.int k2), .val (.ref b1), .val (.int z23_l7), .val (.int z23_l8), .val (.int z26_s0)] []))
  refine Goes.go (fun _ kst => XS.aload X29.here hx rfl (hb hby at_151) rfl rfl  kst) ?_
  show Goes p e below s _ _ _ (T29.setTop (mkF m 153 #[.val (.int p0), .val (.int p1), .val (.int p2), .val (.int k0), .val (.int k1), .val (.int k2), .val (.ref b1), .val (.int z23_l7), .val (.int z23_l8), .val (.int z26_s0)] [(.ref b1)]))
  refine Goes.go (fun _ kst => XS.iloadN X29.here hx rfl (hb hby at_153) rfl  kst) ?_
  show Goes p e below s _ _ _ (T29.setTop (mkF m 154 #[.val (.int p0), .val (.int p1), .val (.int p2), .val (.int k0), .val (.int k1), .val (.int k2), .val (.ref b1), .val (.int z23_l7), .val (.int z23_l8), .val (.int z26_s0)] [(.int p2), (.ref b1)]))
  obtain ⟨cq31, kq31, q31a, q31b, q31c⟩ := isOf hZ e29 G15_0
  obtain ⟨_, _, ⟨T31, L31, k31, n31⟩, -, X31, ⟨Lc31, hQ31, l31, y31, z31⟩, st31⟩ := X29.virtualBack hx (y := (⟨"com/example/surety/surety/Search", "deadlock", "(I)I"⟩ : MethodName)) (z := (⟨"com/example/surety/surety/Search", "deadlock", "(I)I"⟩ : MethodName)) hown (mvT hZ (hw _ (List.mem_of_getElem? (i := 61) rfl))) (mvT hZ (hw _ (List.mem_of_getElem? (i := 62) rfl))) (notFace_of_selects (args := #[]) (mvT hZ (hw _ (List.mem_of_getElem? (i := 64) rfl)))) (mvT hZ (hw _ (List.mem_of_getElem? (i := 64) rfl))) (mvT hZ (hw _ (List.mem_of_getElem? (i := 63) rfl))) (by decide) (backOf (W := 0) (rm8 l Z a0 hw [] b1 p2 (1 : Int32) s3 (0 : Int32) (0 : Int32) t3 a3 b3' h15 n0 Z15 G15_1 Fn18 G15_3 Fz3 Fn19 Fn16 Fn17) hZ (hw _ (List.mem_of_getElem? (i := 65) rfl)) (hw _ (List.mem_of_getElem? (i := 2) rfl)) (by decide) (by decide)) q31a q31c (g := (mkF m 154 #[.val (.int p0), .val (.int p1), .val (.int p2), .val (.int k0), .val (.int k1), .val (.int k2), .val (.ref b1), .val (.int z23_l7), .val (.int z23_l8), .val (.int z26_s0)] [(.int p2), (.ref b1)])) rfl (by rw [hml]; rfl) (Steps.refl _) (argsL := [(.int p2)]) (rest := []) (lenOf pd_4 rfl) rfl (by show 2 * 0 + _ ≤ _; exact Nat.le_of_eq rfl) (hb hby at_154) (fun _ _ => ⟨rfl, e29, (by decide : 4 + 0 ≤ _), (by decide : 45 + 0 ≤ _)⟩)
  dsimp only [Pt.U, Pt.locs, Pt.cells, Pt.slots] at X31 l31 y31 z31 st31 hQ31
  subst l31 y31 z31
  obtain ⟨rfl, N31q, e31⟩ := hQ31
  have N31 := Fr.app N29 N31q
  refine Goes.tr st31 ?_
  show Goes p e below s _ _ _ (T31.setTop (mkF m 157 #[.val (.int p0), .val (.int p1), .val (.int p2), .val (.int k0), .val (.int k1), .val (.int k2), .val (.ref b1), .val (.int z23_l7), .val (.int z23_l8), .val (.int z26_s0)] [(.int (f8 b1 p2 (1 : Int32) s3 (0 : Int32) (0 : Int32) t3 a3 b3'))]))
  refine Goes.go (fun _ kst => XS.iload X31.here hx rfl (hb hby at_157) rfl  kst) ?_
  show Goes p e below s _ _ _ (T31.setTop (mkF m 159 #[.val (.int p0), .val (.int p1), .val (.int p2), .val (.int k0), .val (.int k1), .val (.int k2), .val (.ref b1), .val (.int z23_l7), .val (.int z23_l8), .val (.int z26_s0)] [(.int z26_s0), (.int (f8 b1 p2 (1 : Int32) s3 (0 : Int32) (0 : Int32) t3 a3 b3'))]))
  have hc159_32 : (f8 b1 p2 (1 : Int32) s3 (0 : Int32) (0 : Int32) t3 a3 b3') = z26_s0 := by rw [hz26_s0, hT1, hT2]; rfl
  refine Goes.go (fun _ kst => XS.icmpNo X31.here hx rfl (hb hby at_159) rfl (teq hc159_32).2 kst) ?_
  show Goes p e below s _ _ _ (T31.setTop (mkF m 162 #[.val (.int p0), .val (.int p1), .val (.int p2), .val (.int k0), .val (.int k1), .val (.int k2), .val (.ref b1), .val (.int z23_l7), .val (.int z23_l8), .val (.int z26_s0)] []))
  refine Goes.go (fun _ kst => XS.iconst X31.here hx rfl (hb hby at_162) kst) ?_
  show Goes p e below s _ _ _ (T31.setTop (mkF m 163 #[.val (.int p0), .val (.int p1), .val (.int p2), .val (.int k0), .val (.int k1), .val (.int k2), .val (.ref b1), .val (.int z23_l7), .val (.int z23_l8), .val (.int z26_s0)] [(.int (1 : Int32))]))
  refine Goes.go (fun _ kst => XS.goto X31.here hx rfl (pc0 := 163) (pc' := 167) rfl (hb hby at_163) (by decide) (by decide) kst) ?_
  show Goes p e below s _ _ _ (T31.setTop (mkF m 167 #[.val (.int p0), .val (.int p1), .val (.int p2), .val (.int k0), .val (.int k1), .val (.int k2), .val (.ref b1), .val (.int z23_l7), .val (.int z23_l8), .val (.int z26_s0)] [(.int (1 : Int32))]))
  refine Goes.retN .boolean X31 hx hlk Bd.returns (by simp) (hb hby at_167) ?_ (by decide) (by decide)
  exact ⟨rfl, N31⟩
set_option maxRecDepth 65536 in
set_option maxHeartbeats 40000000 in
theorem comes_1 {Post : Tables → Env → Array Value → State → Outcome → State → Prop} (hpost : ∀ tb e args s v u, (limb_1_1.after args s (.returned v) u = true ∧ limb_1_2.after args s (.returned v) u = true ∧ True) → FrameEnd s (.returned v) u (Jvm.fieldLocs frame_1_writes args s ++ Jvm.arrayLocs frame_1_arrays args s ++ Jvm.staticLocs frame_1_statics s) 16 192 → Post tb e args s (.returned v) u) :
    ArmFor flags0 classFile x code maxLocals ret World_1 tables_1 room_1 Calls_1 rest_1 Pre_1 Post := by
  intro l hfl _ _ p e ha hc hk s m args below hf hA hF happ hP
  obtain ⟨hcalls, hrest, hpre⟩ := hP
  obtain ⟨-, -, -, hnamed, -, -, -, hat⟩ := (Spec.applies_iff hf).mp happ
  obtain ⟨hg, hn⟩ := and_e (Cond.before_iff.mp (show (Jvm.Cond.and given_1 narrow_1).before args s = true from hpre))
  obtain ⟨gc, gr0⟩ := and_e hg
  obtain ⟨w0, w1, w2, rfl⟩ : ∃ w0 w1 w2 : Value, args = #[w0, w1, w2] := by
    have hs : args.size = 3 := by simpa [Cond.value, given_1] using gc
    obtain ⟨L⟩ := args
    match L, hs with
    | [w0, w1, w2], _ => exact ⟨w0, w1, w2, rfl⟩
  have hw := fun d (hd : d ∈ tables_1) => atoms_spec (ws := Jvm.Cond.code x code maxLocals ret :: tables_1) hat d (List.mem_cons_of_mem _ hd)
  have hfit : Fit s := fun {y c} hc i hi => by
    obtain ⟨ha, rfl⟩ := Array.getElem?_eq_some_iff.mp hc
    have q := List.all_eq_true.mp ((Array.all_eq_true_iff_forall_mem.mp hF) _ (Array.getElem_mem ha)) i (List.mem_range.mpr hi)
    simpa [Array.getElem?_eq_getElem hi] using q
  obtain ⟨hsets, hown0⟩ := atoms_of _ (rest_1_c_eq ▸ (show rest_1_c.before _ s = true from hrest))
  obtain ⟨ga0, gr1⟩ := and_e gr0
  obtain ⟨i0, ei0⟩ := is_v ga0
  obtain rfl : w0 = (.int i0) := Option.some.inj ei0
  obtain ⟨ga1, gr2⟩ := and_e gr1
  obtain ⟨i1, ei1⟩ := is_v ga1
  obtain rfl : w1 = (.int i1) := Option.some.inj ei1
  obtain ⟨i2, ei2⟩ := is_v gr2
  obtain rfl : w2 = (.int i2) := Option.some.inj ei2
  obtain ⟨dc, edc⟩ := exa_v (Cond.before_iff.mp (hsets _ (List.mem_of_getElem? (i := 7) rfl)))
  have S_dc : Sta s s.heap "java/util/ArrayList" "DEFAULTCAPACITY_EMPTY_ELEMENTDATA" "[Ljava/lang/Object;" (.ref dc) := Sta.start edc (Or.inr ⟨(hw _ (List.mem_of_getElem? (i := 5) rfl)), hsets _ (List.mem_of_getElem? (i := 2) rfl)⟩)
  obtain ⟨n, o, h1, h2, h3, _, L, rfl, ⟨rfl, N⟩, hq⟩ := rm0 l s _ hw tables_1 i0 i1 i2 dc s.heap s.heap.size (Nat.le_refl _) S_dc p e ha hc hk s m _ below hf ((Spec.applies_iff_loose hf).mp happ).1 ⟨rfl, State.Warmed39.refl s, rfl⟩ trivial
  refine ⟨n, _, h1, h2, h3, hpost _ _ _ _ _ _ ⟨Cond.after_iff.mpr rfl, Cond.after_iff.mpr (eq_i res_at (Term.int_eval (1)) rfl), trivial⟩ ⟨hq.1, hq.2.1, (hq.2.2.sift fun y hy => Or.inr (N y hy)).mono (by decide) (by decide)⟩⟩
theorem main_1_1 : Claimed_1_1 := comes_1 fun _ _ _ _ _ _ h hF => ⟨h.1, hF⟩
theorem main_1_2 : Claimed_1_2 := comes_1 fun _ _ _ _ _ _ h hF => ⟨h.2.1, hF⟩
end Jvm.Pilot.@@N@@
namespace Jvm.Pilot.@@N@@
open Jvm Jvm.ClassFile Sem Op Lib Jvm.Free Jvm.Stand Jvm.Pilot.@@N@@.Jvm.D
/-! MADE BY PROGRAM (witnessworld.py) out of the Statement's table words and the real class files: 20 classes; the members and pool entries that the words name. The judged class is class 1, her method 2. -/
namespace start1
open Jvm.ClassFile
def u (s : String) : CpInfo := .utf8 (stringToUtf16 s)
/-- a pool by its gaps: so many unusable entries, then the entry; so many at the end -/
def gap : Nat → List CpInfo → List CpInfo
  | 0, r => r
  | n + 1, r => .unusable :: gap n r
def poolList (es : List (Nat × CpInfo)) (last : Nat) : List CpInfo := es.foldr (fun e r => gap e.1 (e.2 :: r)) (gap last [])
def pool (es : List (Nat × CpInfo)) (last : Nat) : Array CpInfo := ⟨poolList es last⟩
def fileOf (pool : Array CpInfo) (this : Nat) (attrs : Array Attribute := #[]) (ms : Array MethodInfo := #[]) (fl : Nat := 33) (sup : Nat := 0) (ifs : Array Nat := #[]) (fds : Array FieldInfo := #[]) : ClassFile where
  minorVersion := 0
  majorVersion := 65
  constantPool := pool
  accessFlags := fl
  thisClass := this
  superClass := sup
  interfaces := ifs
  fields := fds
  methods := ms
  attributes := attrs
def plain (name : String) (sup : Option ClassId) : Class where
  name := name
  kind := .ordinary
  loader := none
  accessFlags := 33
  super := sup
  interfaces := #[]
  cf := none
  fields := #[]
  methods := #[]
  instanceTypes := #[]
  staticTypes := #[]
  resolved := #[]
  callSites := []
  init := .initialized
  statics := none
  mirror := none

def pool0 : Array CpInfo := pool [(5, u "<init>"), (0, u "()V"), (1, .class_ 10), (1, u "java/lang/Object")] 113

def k0c0 : Code := { maxStack := 0, maxLocals := 1, code := object_method_1_code, exceptionTable := #[], attributes := #[] }
def k0m0 : Method := { name := "<init>", desc := "()V", sig := { parameters := [], returnType := none }, accessFlags := 1, code := some k0c0 }
/-- java/lang/Object -/
def k0 : Class := { plain "java/lang/Object" none with
  accessFlags := 33
  interfaces := #[]
  cf := some (fileOf pool0 8 #[] #[{ accessFlags := 1, nameIndex := 5, descriptorIndex := 6, attributes := #[] }] 33 0 #[] #[])
  fields := #[]
  methods := #[k0m0]
  instanceTypes := #[]
  staticTypes := #[]
  resolved := Array.replicate 124 none
  statics := none }

def pool1 : Array CpInfo := pool [(2, .class_ 4), (0, .nameAndType 5 6), (0, u "java/lang/Object"), (0, u "<init>"), (0, u "()V"), (0, .methodref 8 9), (0, .class_ 10), (0, .nameAndType 11 12), (0, u "com/example/surety/surety/Search"), (0, u "add"), (0, u "(II)V"), (0, .methodref 8 14), (0, .nameAndType 15 6), (0, u "terminate"), (0, .methodref 8 17), (0, .nameAndType 18 6), (0, u "endState"), (0, .class_ 20), (0, u "java/util/ArrayList"), (0, .methodref 19 3), (0, .methodref 8 23), (0, .nameAndType 5 24), (0, u "(Ljava/util/List;)V"), (0, .methodref 26 27), (0, .class_ 28), (0, .nameAndType 29 30), (0, u "com/example/surety/surety/SearchEndStatePinLaw"), (0, u "handState"), (0, u "(Lcom/example/surety/surety/Search;II)V"), (0, .methodref 8 32), (0, .nameAndType 33 34), (0, u "deadlock"), (0, u "(I)I"), (3, u "law"), (0, u "(III)Z")] 2

def k1m0 : Method := { name := "<init>", desc := "()V", sig := { parameters := [], returnType := none }, accessFlags := 1, code := none }
def k1c1 : Code := { maxStack := 3, maxLocals := 3, code := method_2_code, exceptionTable := #[], attributes := #[] }
def k1m1 : Method := { name := "handState", desc := "(Lcom/example/surety/surety/Search;II)V", sig := { parameters := [(.object "com/example/surety/surety/Search"), .int, .int], returnType := none }, accessFlags := 10, code := some k1c1 }
def k1c2 : Code := { maxStack := 4, maxLocals := 10, code := code, exceptionTable := #[], attributes := #[] }
def k1m2 : Method := { name := "law", desc := "(III)Z", sig := { parameters := [.int, .int, .int], returnType := some .boolean }, accessFlags := 9, code := some k1c2 }
/-- com/example/surety/surety/SearchEndStatePinLaw -/
def k1 : Class := { plain "com/example/surety/surety/SearchEndStatePinLaw" (some 0) with
  accessFlags := 49
  interfaces := #[]
  cf := some (fileOf pool1 26 #[] #[{ accessFlags := 1, nameIndex := 5, descriptorIndex := 6, attributes := #[] }, { accessFlags := 10, nameIndex := 29, descriptorIndex := 30, attributes := #[] }, { accessFlags := 9, nameIndex := 38, descriptorIndex := 39, attributes := #[] }] 49 2 #[] #[])
  fields := #[]
  methods := #[k1m0, k1m1, k1m2]
  instanceTypes := #[]
  staticTypes := #[]
  resolved := Array.replicate 42 none
  statics := none }

def pool2 : Array CpInfo := pool [(1, .class_ 2), (0, u "com/example/surety/surety/Lts$Receiver"), (0, .class_ 4), (0, u "java/lang/Object"), (7, .class_ 13), (0, u "com/example/surety/surety/Lts")] 2

/-- com/example/surety/surety/Lts$Receiver -/
def k2 : Class := { plain "com/example/surety/surety/Lts$Receiver" (some 0) with
  accessFlags := 1536
  interfaces := #[]
  cf := some (fileOf pool2 1 #[.nestHost 12] #[] 1536 3 #[] #[])
  fields := #[]
  methods := #[]
  instanceTypes := #[]
  staticTypes := #[]
  resolved := Array.replicate 16 none
  statics := none }

def pool3 : Array CpInfo := pool [(1, .class_ 2), (0, u "com/example/surety/surety/Lts$Sink"), (0, .class_ 4), (0, u "java/lang/Object"), (0, .class_ 6), (0, u "com/example/surety/surety/Lts$Receiver"), (6, .class_ 14), (0, u "com/example/surety/surety/Lts")] 3

/-- com/example/surety/surety/Lts$Sink -/
def k3 : Class := { plain "com/example/surety/surety/Lts$Sink" (some 0) with
  accessFlags := 1536
  interfaces := #[2]
  cf := some (fileOf pool3 1 #[.nestHost 13] #[] 1536 3 #[5] #[])
  fields := #[]
  methods := #[]
  instanceTypes := #[]
  staticTypes := #[]
  resolved := Array.replicate 18 none
  statics := none }

def pool4 : Array CpInfo := pool [(1, .methodref 2 3), (0, .class_ 4), (0, .nameAndType 5 6), (0, u "java/lang/Object"), (0, u "<init>"), (0, u "()V"), (0, .fieldref 8 9), (0, .class_ 10), (0, .nameAndType 11 12), (0, u "com/example/surety/surety/Search"), (0, u "parents"), (0, u "[I"), (0, .fieldref 8 14), (0, .nameAndType 15 12), (0, u "actions"), (0, .fieldref 8 17), (0, .nameAndType 18 19), (0, u "reached"), (0, u "I"), (0, .fieldref 8 21), (0, .nameAndType 22 19), (0, u "firstStuck"), (0, .fieldref 8 24), (0, .nameAndType 25 19), (0, u "secondStuck"), (0, .fieldref 8 27), (0, .nameAndType 28 29), (0, u "alphabet"), (0, u "Ljava/util/List;"), (7, u "(Ljava/util/List;)V"), (25, .fieldref 8 64), (0, .nameAndType 65 19), (0, u "state"), (0, .fieldref 8 67), (0, .nameAndType 68 19), (0, u "outgoing"), (0, .fieldref 8 70), (0, .nameAndType 71 72), (0, u "transitions"), (0, u "J"), (0, .fieldref 8 74), (0, .nameAndType 75 76), (0, u "terminated"), (0, u "Z"), (13, u "add"), (6, .class_ 98), (0, u "com/example/surety/surety/Lts$Sink"), (7, u "(II)V"), (1, u "terminate"), (0, u "endState"), (2, u "deadlock"), (0, u "(I)I")] 22

def k4c0 : Code := { maxStack := 2, maxLocals := 2, code := prog_182_method_1_code, exceptionTable := #[], attributes := #[] }
def k4m0 : Method := { name := "<init>", desc := "(Ljava/util/List;)V", sig := { parameters := [(.object "java/util/List")], returnType := none }, accessFlags := 0, code := some k4c0 }
def k4c1 : Code := { maxStack := 7, maxLocals := 3, code := prog_182_method_3_code, exceptionTable := #[], attributes := #[] }
def k4m1 : Method := { name := "add", desc := "(II)V", sig := { parameters := [.int, .int], returnType := none }, accessFlags := 1, code := some k4c1 }
def k4c2 : Code := { maxStack := 2, maxLocals := 1, code := prog_182_method_4_code, exceptionTable := #[], attributes := #[] }
def k4m2 : Method := { name := "terminate", desc := "()V", sig := { parameters := [], returnType := none }, accessFlags := 1, code := some k4c2 }
def k4c3 : Code := { maxStack := 3, maxLocals := 1, code := prog_182_method_5_code, exceptionTable := #[], attributes := #[] }
def k4m3 : Method := { name := "endState", desc := "()V", sig := { parameters := [], returnType := none }, accessFlags := 1, code := some k4c3 }
def k4c4 : Code := { maxStack := 2, maxLocals := 2, code := prog_182_method_8_code, exceptionTable := #[], attributes := #[] }
def k4m4 : Method := { name := "deadlock", desc := "(I)I", sig := { parameters := [.int], returnType := some .int }, accessFlags := 0, code := some k4c4 }
/-- com/example/surety/surety/Search -/
def k4 : Class := { plain "com/example/surety/surety/Search" (some 0) with
  accessFlags := 48
  interfaces := #[3]
  cf := some (fileOf pool4 8 #[] #[{ accessFlags := 0, nameIndex := 5, descriptorIndex := 37, attributes := #[] }, { accessFlags := 1, nameIndex := 90, descriptorIndex := 106, attributes := #[] }, { accessFlags := 1, nameIndex := 108, descriptorIndex := 6, attributes := #[] }, { accessFlags := 1, nameIndex := 109, descriptorIndex := 6, attributes := #[] }, { accessFlags := 0, nameIndex := 112, descriptorIndex := 113, attributes := #[] }] 48 2 #[97] #[{ accessFlags := 18, nameIndex := 28, descriptorIndex := 29, attributes := #[] }, { accessFlags := 2, nameIndex := 11, descriptorIndex := 12, attributes := #[] }, { accessFlags := 2, nameIndex := 15, descriptorIndex := 12, attributes := #[] }, { accessFlags := 2, nameIndex := 18, descriptorIndex := 19, attributes := #[] }, { accessFlags := 2, nameIndex := 65, descriptorIndex := 19, attributes := #[] }, { accessFlags := 2, nameIndex := 68, descriptorIndex := 19, attributes := #[] }, { accessFlags := 2, nameIndex := 75, descriptorIndex := 76, attributes := #[] }, { accessFlags := 2, nameIndex := 71, descriptorIndex := 72, attributes := #[] }, { accessFlags := 2, nameIndex := 22, descriptorIndex := 19, attributes := #[] }, { accessFlags := 2, nameIndex := 25, descriptorIndex := 19, attributes := #[] }])
  fields := #[{ name := "alphabet", type := (.object "java/util/List"), accessFlags := 18, slot := 0, constantValue := 0 }, { name := "parents", type := (.array .int), accessFlags := 2, slot := 1, constantValue := 0 }, { name := "actions", type := (.array .int), accessFlags := 2, slot := 2, constantValue := 0 }, { name := "reached", type := .int, accessFlags := 2, slot := 3, constantValue := 0 }, { name := "state", type := .int, accessFlags := 2, slot := 4, constantValue := 0 }, { name := "outgoing", type := .int, accessFlags := 2, slot := 5, constantValue := 0 }, { name := "terminated", type := .boolean, accessFlags := 2, slot := 6, constantValue := 0 }, { name := "transitions", type := .long, accessFlags := 2, slot := 7, constantValue := 0 }, { name := "firstStuck", type := .int, accessFlags := 2, slot := 8, constantValue := 0 }, { name := "secondStuck", type := .int, accessFlags := 2, slot := 9, constantValue := 0 }]
  methods := #[k4m0, k4m1, k4m2, k4m3, k4m4]
  instanceTypes := #[(.object "java/util/List"), (.array .int), (.array .int), .int, .int, .int, .boolean, .long, .int, .int]
  staticTypes := #[]
  resolved := Array.replicate 136 none
  statics := none }

def pool5 : Array CpInfo := pool [(8, .class_ 10), (1, u "java/lang/Iterable"), (24, .class_ 36), (0, u "java/lang/Object")] 25

/-- java/lang/Iterable -/
def k5 : Class := { plain "java/lang/Iterable" (some 0) with
  accessFlags := 1537
  interfaces := #[]
  cf := some (fileOf pool5 8 #[] #[] 1537 35 #[] #[])
  fields := #[]
  methods := #[]
  instanceTypes := #[]
  staticTypes := #[]
  resolved := Array.replicate 62 none
  statics := none }

def pool6 : Array CpInfo := pool [(10, .class_ 12), (1, u "java/util/Collection"), (47, .class_ 61), (0, u "java/lang/Object"), (0, .class_ 63), (0, u "java/lang/Iterable")] 51

/-- java/util/Collection -/
def k6 : Class := { plain "java/util/Collection" (some 0) with
  accessFlags := 1537
  interfaces := #[5]
  cf := some (fileOf pool6 10 #[] #[] 1537 60 #[62] #[])
  fields := #[]
  methods := #[]
  instanceTypes := #[]
  staticTypes := #[]
  resolved := Array.replicate 115 none
  statics := none }

def pool7 : Array CpInfo := pool [(1, .methodref 2 3), (0, .class_ 4), (0, .nameAndType 5 6), (0, u "java/lang/Object"), (0, u "<init>"), (0, u "()V"), (1, .class_ 10), (1, u "java/util/AbstractCollection"), (66, .class_ 78), (0, u "java/util/Collection")] 81

def k7c0 : Code := { maxStack := 1, maxLocals := 1, code := jdk_22_method_1_code, exceptionTable := #[], attributes := #[] }
def k7m0 : Method := { name := "<init>", desc := "()V", sig := { parameters := [], returnType := none }, accessFlags := 4, code := some k7c0 }
/-- java/util/AbstractCollection -/
def k7 : Class := { plain "java/util/AbstractCollection" (some 0) with
  accessFlags := 1057
  interfaces := #[6]
  cf := some (fileOf pool7 8 #[] #[{ accessFlags := 4, nameIndex := 5, descriptorIndex := 6, attributes := #[] }] 1057 2 #[77] #[])
  fields := #[]
  methods := #[k7m0]
  instanceTypes := #[]
  staticTypes := #[]
  resolved := Array.replicate 160 none
  statics := none }

def pool8 : Array CpInfo := pool [(8, .class_ 10), (1, u "java/util/SequencedCollection"), (15, .class_ 27), (0, u "java/lang/Object"), (0, .class_ 29), (0, u "java/util/Collection")] 27

/-- java/util/SequencedCollection -/
def k8 : Class := { plain "java/util/SequencedCollection" (some 0) with
  accessFlags := 1537
  interfaces := #[6]
  cf := some (fileOf pool8 8 #[] #[] 1537 26 #[28] #[])
  fields := #[]
  methods := #[]
  instanceTypes := #[]
  staticTypes := #[]
  resolved := Array.replicate 57 none
  statics := none }

def pool9 : Array CpInfo := pool [(8, .class_ 10), (1, u "java/util/List"), (92, .class_ 104), (0, u "java/lang/Object"), (15, .class_ 121), (0, u "java/util/SequencedCollection")] 129

/-- java/util/List -/
def k9 : Class := { plain "java/util/List" (some 0) with
  accessFlags := 1537
  interfaces := #[8]
  cf := some (fileOf pool9 8 #[] #[] 1537 103 #[120] #[])
  fields := #[]
  methods := #[]
  instanceTypes := #[]
  staticTypes := #[]
  resolved := Array.replicate 251 none
  statics := none }

def pool10 : Array CpInfo := pool [(1, .methodref 2 3), (0, .class_ 4), (0, .nameAndType 5 6), (0, u "java/util/AbstractCollection"), (0, u "<init>"), (0, u "()V"), (0, .fieldref 8 9), (0, .class_ 10), (0, .nameAndType 11 12), (0, u "java/util/AbstractList"), (0, u "modCount"), (0, u "I"), (64, .class_ 78), (0, u "java/util/AbstractList$Itr"), (3, .class_ 83), (0, u "java/util/AbstractList$ListItr"), (9, .class_ 94), (0, u "java/util/AbstractList$RandomAccessSubList"), (3, .class_ 99), (0, u "java/util/AbstractList$SubList"), (33, .class_ 134), (0, u "java/util/List"), (73, .class_ 209), (0, u "java/util/AbstractList$SubList$1"), (0, .class_ 211), (0, u "java/util/AbstractList$RandomAccessSpliterator")] 6

def k10c0 : Code := { maxStack := 2, maxLocals := 1, code := jdk_39_method_1_code, exceptionTable := #[], attributes := #[] }
def k10m0 : Method := { name := "<init>", desc := "()V", sig := { parameters := [], returnType := none }, accessFlags := 4, code := some k10c0 }
/-- java/util/AbstractList -/
def k10 : Class := { plain "java/util/AbstractList" (some 7) with
  accessFlags := 1057
  interfaces := #[9]
  cf := some (fileOf pool10 8 #[.nestMembers #[93, 98, 208, 210, 82, 77]] #[{ accessFlags := 4, nameIndex := 5, descriptorIndex := 6, attributes := #[] }] 1057 2 #[133] #[{ accessFlags := 132, nameIndex := 11, descriptorIndex := 12, attributes := #[] }])
  fields := #[{ name := "modCount", type := .int, accessFlags := 132, slot := 0, constantValue := 0 }]
  methods := #[k10m0]
  instanceTypes := #[.int]
  staticTypes := #[]
  resolved := Array.replicate 218 none
  statics := none }

def pool11 : Array CpInfo := pool [(1, .class_ 2), (0, u "java/util/RandomAccess"), (0, .class_ 4), (0, u "java/lang/Object")] 2

/-- java/util/RandomAccess -/
def k11 : Class := { plain "java/util/RandomAccess" (some 0) with
  accessFlags := 1537
  interfaces := #[]
  cf := some (fileOf pool11 1 #[] #[] 1537 3 #[] #[])
  fields := #[]
  methods := #[]
  instanceTypes := #[]
  staticTypes := #[]
  resolved := Array.replicate 7 none
  statics := none }

def pool12 : Array CpInfo := pool [(1, .class_ 2), (0, u "java/lang/Cloneable"), (0, .class_ 4), (0, u "java/lang/Object")] 2

/-- java/lang/Cloneable -/
def k12 : Class := { plain "java/lang/Cloneable" (some 0) with
  accessFlags := 1537
  interfaces := #[]
  cf := some (fileOf pool12 1 #[] #[] 1537 3 #[] #[])
  fields := #[]
  methods := #[]
  instanceTypes := #[]
  staticTypes := #[]
  resolved := Array.replicate 7 none
  statics := none }

def pool13 : Array CpInfo := pool [(1, .class_ 2), (0, u "java/io/Serializable"), (0, .class_ 4), (0, u "java/lang/Object")] 2

/-- java/io/Serializable -/
def k13 : Class := { plain "java/io/Serializable" (some 0) with
  accessFlags := 1537
  interfaces := #[]
  cf := some (fileOf pool13 1 #[] #[] 1537 3 #[] #[])
  fields := #[]
  methods := #[]
  instanceTypes := #[]
  staticTypes := #[]
  resolved := Array.replicate 7 none
  statics := none }

def pool14 : Array CpInfo := pool [(1, .methodref 2 3), (0, .class_ 4), (0, .nameAndType 5 6), (0, u "java/util/AbstractList"), (0, u "<init>"), (0, u "()V"), (2, .fieldref 10 11), (0, .class_ 12), (0, .nameAndType 13 14), (0, u "java/util/ArrayList"), (0, u "elementData"), (0, u "[Ljava/lang/Object;"), (2, u "EMPTY_ELEMENTDATA"), (21, .fieldref 10 40), (0, .nameAndType 41 14), (0, u "DEFAULTCAPACITY_EMPTY_ELEMENTDATA"), (8, u "size"), (0, u "I"), (96, .class_ 149), (0, u "java/util/List"), (112, .class_ 263), (0, u "java/util/ArrayList$ListItr"), (3, .class_ 268), (0, u "java/util/ArrayList$Itr"), (7, .class_ 277), (0, u "java/util/ArrayList$SubList"), (12, .class_ 291), (0, u "java/util/ArrayList$ArrayListSpliterator"), (37, .class_ 330), (0, u "java/util/RandomAccess"), (0, .class_ 332), (0, u "java/lang/Cloneable"), (0, .class_ 334), (0, u "java/io/Serializable"), (0, u "serialVersionUID"), (0, u "J"), (3, u "DEFAULT_CAPACITY"), (159, .class_ 501), (0, u "java/util/ArrayList$SubList$2"), (0, .class_ 503), (0, u "java/util/ArrayList$SubList$1")] 5

def k14c0 : Code := { maxStack := 2, maxLocals := 1, code := jdk_38_method_2_code, exceptionTable := #[], attributes := #[] }
def k14m0 : Method := { name := "<init>", desc := "()V", sig := { parameters := [], returnType := none }, accessFlags := 1, code := some k14c0 }
/-- java/util/ArrayList -/
def k14 : Class := { plain "java/util/ArrayList" (some 10) with
  accessFlags := 33
  interfaces := #[9, 11, 12, 13]
  cf := some (fileOf pool14 10 #[.nestMembers #[290, 276, 500, 502, 262, 267]] #[{ accessFlags := 1, nameIndex := 5, descriptorIndex := 6, attributes := #[] }] 33 2 #[148, 329, 331, 333] #[{ accessFlags := 26, nameIndex := 335, descriptorIndex := 336, attributes := #[] }, { accessFlags := 26, nameIndex := 340, descriptorIndex := 51, attributes := #[] }, { accessFlags := 26, nameIndex := 17, descriptorIndex := 14, attributes := #[] }, { accessFlags := 26, nameIndex := 41, descriptorIndex := 14, attributes := #[] }, { accessFlags := 128, nameIndex := 13, descriptorIndex := 14, attributes := #[] }, { accessFlags := 2, nameIndex := 50, descriptorIndex := 51, attributes := #[] }])
  fields := #[{ name := "serialVersionUID", type := .long, accessFlags := 26, slot := 0, constantValue := 0 }, { name := "DEFAULT_CAPACITY", type := .int, accessFlags := 26, slot := 1, constantValue := 0 }, { name := "EMPTY_ELEMENTDATA", type := (.array (.object "java/lang/Object")), accessFlags := 26, slot := 2, constantValue := 0 }, { name := "DEFAULTCAPACITY_EMPTY_ELEMENTDATA", type := (.array (.object "java/lang/Object")), accessFlags := 26, slot := 3, constantValue := 0 }, { name := "elementData", type := (.array (.object "java/lang/Object")), accessFlags := 128, slot := 1, constantValue := 0 }, { name := "size", type := .int, accessFlags := 2, slot := 2, constantValue := 0 }]
  methods := #[k14m0]
  instanceTypes := #[.int, (.array (.object "java/lang/Object")), .int]
  staticTypes := #[.long, .int, (.array (.object "java/lang/Object")), (.array (.object "java/lang/Object"))]
  resolved := Array.replicate 509 none
  statics := some 0 }

/-- the primitive byte -/
def k15 : Class := { plain "byte" none with kind := .primitive 'B', accessFlags := 0x411 }
/-- [B -/
def k16 : Class := { plain "[B" (some 0) with kind := .array 15 .byte, interfaces := #[12, 13], accessFlags := 1041 }

/-- the primitive int -/
def k17 : Class := { plain "int" none with kind := .primitive 'I', accessFlags := 0x411 }
/-- [I -/
def k18 : Class := { plain "[I" (some 0) with kind := .array 17 .int, interfaces := #[12, 13], accessFlags := 1041 }

/-- [Ljava/lang/Object; -/
def k19 : Class := { plain "[Ljava/lang/Object;" (some 0) with kind := .array 0 (.object "java/lang/Object"), interfaces := #[12, 13], accessFlags := 1041 }

def heap : Heap := #[{ cls := 14, slots := #[.long 0, .int 0, .ref 1, .ref 2], vm := .statics 14 },
  { cls := 19, slots := #[], vm := .none },
  { cls := 19, slots := #[], vm := .none }]
def classes : Array Class := #[k0, k1, k2, k3, k4, k5, k6, k7, k8, k9, k10, k11, k12, k13, k14, k15, k16, k17, k18, k19]
def interned : List (Array UInt16 × Addr) := []
def slotsUsed : Nat := 4
def theMethod : MethodId := ⟨1, 2⟩
def args0 : Array Value := #[.int 5, .int 5, .int 5]
def aboutOver (below : List Frame) : State where
  vm := { classes := classes, interned := interned.toArray }
  heap := heap
  slotsUsed := slotsUsed
  threads := #[{ frames := .invoking theMethod args0 :: below }]
def below0 : List Frame := [.native { method := ⟨0, 0⟩, args := #[] }]
def about1 : State := aboutOver below0
def p0 : Program := .bare "" "" ""
def e0 : Env := launch0.env 0 0 0
theorem w_frames : about1.frames = Frame.invoking theMethod args0 :: below0 := rfl
set_option maxRecDepth 65536 in
theorem w_args : argsFit about1.vm theMethod args0 = true := by decide +kernel
set_option maxRecDepth 65536 in
theorem w_heap : heapFits about1 = true := by decide +kernel
set_option maxRecDepth 65536 in
theorem w_runnable : about1.curStatus? = some .runnable := by decide +kernel
set_option maxRecDepth 65536 in
theorem w_alone : about1.alone = true := by decide +kernel
set_option maxRecDepth 65536 in
theorem w_named : about1.methodNamed? x = some theMethod := by decide +kernel
set_option maxRecDepth 65536 in
theorem w_hears : about1.hears theMethod below0 = true := by decide +kernel
set_option maxRecDepth 65536 in
theorem w_ripe : about1.ripe theMethod args0 below0 = true := by decide +kernel
theorem w_running : about1.status = .running := rfl
set_option maxRecDepth 65536 in
theorem w_room : about1.hasRoom e0.platform room_1 = true :=
  launch0.hasRoom_least _ room_1 (by decide +kernel) (by decide +kernel) (by decide +kernel) (by decide +kernel) (by decide +kernel) (by decide +kernel)
theorem allAtoms_all (ts : List Jvm.Cond) (a : Array Jvm.Value) (st : Jvm.State) : (allAtoms ts).before a st = ts.all (fun c => c.before a st) := by
  induction ts with
  | nil => rfl
  | cons c t ih =>
    show (Jvm.Cond.and c (allAtoms t)).before a st = _
    rw [Jvm.Cond.before_and, ih, List.all_cons]
def words1 : List Jvm.Cond := Jvm.Cond.code x code maxLocals ret :: tables_1
/-- a 'code' word, met by the world's own term for the bytes: nothing is compared byte by byte -/
theorem code_word {y : MethodName} {bytes : ByteArray} {mx : Nat} {rt : Option FieldType} {a : Array Value} {s : State} {m : MethodId} {meth : Method} {c : Code} (h1 : s.methodNamed? y = some m) (h2 : s.vm.method? m = some meth) (h3 : meth.code = some c) (h4 : c.code = bytes)
    (h5 : (c.maxLocals == mx && c.exceptionTable.isEmpty && decide (c.maxStack ≤ mostOperands) && decide (meth.sig.returnType = rt) && !meth.locks && decide (parseMethodDescriptor y.desc = some meth.sig)) = true) : (Jvm.Cond.code y bytes mx rt).before a s = true := by
  simp only [Bool.and_eq_true, beq_iff_eq, Bool.not_eq_true', decide_eq_true_eq] at h5
  obtain ⟨⟨⟨⟨⟨g1, g2⟩, g3⟩, g4⟩, g5⟩, g6⟩ := h5
  simp [Cond.before, Cond.holds, Cond.value, h1, h2, h3, h4, g1, g2, g3, g4, g5, g6]
def isCode : Jvm.Cond → Bool
  | .code _ _ _ _ => true
  | _ => false
theorem all_split {L : List Jvm.Cond} {P : Jvm.Cond → Bool} (h1 : L.all (fun c => isCode c || P c) = true) (h2 : ∀ c ∈ L.filter isCode, P c = true) : L.all P = true := by
  refine List.all_eq_true.mpr fun c hc => ?_
  have h := List.all_eq_true.mp h1 c hc
  rcases Bool.eq_false_or_eq_true (isCode c) with hi | hi
  · exact h2 c (List.mem_filter.mpr ⟨hc, hi⟩)
  · simpa [hi] using h
set_option maxRecDepth 65536 in
theorem w_c0 : (Jvm.Cond.code x code maxLocals ret).before args0 about1 = true := code_word (m := ⟨1, 2⟩) (meth := k1m2) (c := k1c2) (by decide +kernel) rfl rfl rfl (by decide +kernel)
set_option maxRecDepth 65536 in
theorem w_c1 : (Jvm.Cond.code ({ cls := "java/util/ArrayList", name := "<init>", desc := "()V" } : Jvm.MethodName) jdk_38_method_2_code (1 : Nat) (Option.none : Option Jvm.ClassFile.FieldType)).before args0 about1 = true := code_word (m := ⟨14, 0⟩) (meth := k14m0) (c := k14c0) (by decide +kernel) rfl rfl rfl (by decide +kernel)
set_option maxRecDepth 65536 in
theorem w_c2 : (Jvm.Cond.code ({ cls := "java/util/AbstractList", name := "<init>", desc := "()V" } : Jvm.MethodName) jdk_39_method_1_code (1 : Nat) (Option.none : Option Jvm.ClassFile.FieldType)).before args0 about1 = true := code_word (m := ⟨10, 0⟩) (meth := k10m0) (c := k10c0) (by decide +kernel) rfl rfl rfl (by decide +kernel)
set_option maxRecDepth 65536 in
theorem w_c3 : (Jvm.Cond.code ({ cls := "java/util/AbstractCollection", name := "<init>", desc := "()V" } : Jvm.MethodName) jdk_22_method_1_code (1 : Nat) (Option.none : Option Jvm.ClassFile.FieldType)).before args0 about1 = true := code_word (m := ⟨7, 0⟩) (meth := k7m0) (c := k7c0) (by decide +kernel) rfl rfl rfl (by decide +kernel)
set_option maxRecDepth 65536 in
theorem w_c4 : (Jvm.Cond.code ({ cls := "java/lang/Object", name := "<init>", desc := "()V" } : Jvm.MethodName) object_method_1_code (1 : Nat) (Option.none : Option Jvm.ClassFile.FieldType)).before args0 about1 = true := code_word (m := ⟨0, 0⟩) (meth := k0m0) (c := k0c0) (by decide +kernel) rfl rfl rfl (by decide +kernel)
set_option maxRecDepth 65536 in
theorem w_c5 : (Jvm.Cond.code ({ cls := "com/example/surety/surety/Search", name := "<init>", desc := "(Ljava/util/List;)V" } : Jvm.MethodName) prog_182_method_1_code (2 : Nat) (Option.none : Option Jvm.ClassFile.FieldType)).before args0 about1 = true := code_word (m := ⟨4, 0⟩) (meth := k4m0) (c := k4c0) (by decide +kernel) rfl rfl rfl (by decide +kernel)
set_option maxRecDepth 65536 in
theorem w_c6 : (Jvm.Cond.code ({ cls := "com/example/surety/surety/SearchEndStatePinLaw", name := "handState", desc := "(Lcom/example/surety/surety/Search;II)V" } : Jvm.MethodName) method_2_code (3 : Nat) (Option.none : Option Jvm.ClassFile.FieldType)).before args0 about1 = true := code_word (m := ⟨1, 1⟩) (meth := k1m1) (c := k1c1) (by decide +kernel) rfl rfl rfl (by decide +kernel)
set_option maxRecDepth 65536 in
theorem w_c7 : (Jvm.Cond.code ({ cls := "com/example/surety/surety/Search", name := "endState", desc := "()V" } : Jvm.MethodName) prog_182_method_5_code (1 : Nat) (Option.none : Option Jvm.ClassFile.FieldType)).before args0 about1 = true := code_word (m := ⟨4, 3⟩) (meth := k4m3) (c := k4c3) (by decide +kernel) rfl rfl rfl (by decide +kernel)
set_option maxRecDepth 65536 in
theorem w_c8 : (Jvm.Cond.code ({ cls := "com/example/surety/surety/Search", name := "deadlock", desc := "(I)I" } : Jvm.MethodName) prog_182_method_8_code (2 : Nat) (Option.some Jvm.ClassFile.FieldType.int)).before args0 about1 = true := code_word (m := ⟨4, 4⟩) (meth := k4m4) (c := k4c4) (by decide +kernel) rfl rfl rfl (by decide +kernel)
set_option maxRecDepth 65536 in
theorem w_c9 : (Jvm.Cond.code ({ cls := "com/example/surety/surety/Search", name := "terminate", desc := "()V" } : Jvm.MethodName) prog_182_method_4_code (1 : Nat) (Option.none : Option Jvm.ClassFile.FieldType)).before args0 about1 = true := code_word (m := ⟨4, 2⟩) (meth := k4m2) (c := k4c2) (by decide +kernel) rfl rfl rfl (by decide +kernel)
set_option maxRecDepth 65536 in
theorem w_c10 : (Jvm.Cond.code ({ cls := "com/example/surety/surety/Search", name := "add", desc := "(II)V" } : Jvm.MethodName) prog_182_method_3_code (3 : Nat) (Option.none : Option Jvm.ClassFile.FieldType)).before args0 about1 = true := code_word (m := ⟨4, 1⟩) (meth := k4m1) (c := k4c1) (by decide +kernel) rfl rfl rfl (by decide +kernel)
def codes1 : List Jvm.Cond := [Jvm.Cond.code x code maxLocals ret, Jvm.Cond.code ({ cls := "java/util/ArrayList", name := "<init>", desc := "()V" } : Jvm.MethodName) jdk_38_method_2_code (1 : Nat) (Option.none : Option Jvm.ClassFile.FieldType), Jvm.Cond.code ({ cls := "java/util/AbstractList", name := "<init>", desc := "()V" } : Jvm.MethodName) jdk_39_method_1_code (1 : Nat) (Option.none : Option Jvm.ClassFile.FieldType), Jvm.Cond.code ({ cls := "java/util/AbstractCollection", name := "<init>", desc := "()V" } : Jvm.MethodName) jdk_22_method_1_code (1 : Nat) (Option.none : Option Jvm.ClassFile.FieldType), Jvm.Cond.code ({ cls := "java/lang/Object", name := "<init>", desc := "()V" } : Jvm.MethodName) object_method_1_code (1 : Nat) (Option.none : Option Jvm.ClassFile.FieldType), Jvm.Cond.code ({ cls := "com/example/surety/surety/Search", name := "<init>", desc := "(Ljava/util/List;)V" } : Jvm.MethodName) prog_182_method_1_code (2 : Nat) (Option.none : Option Jvm.ClassFile.FieldType), Jvm.Cond.code ({ cls := "com/example/surety/surety/SearchEndStatePinLaw", name := "handState", desc := "(Lcom/example/surety/surety/Search;II)V" } : Jvm.MethodName) method_2_code (3 : Nat) (Option.none : Option Jvm.ClassFile.FieldType), Jvm.Cond.code ({ cls := "com/example/surety/surety/Search", name := "endState", desc := "()V" } : Jvm.MethodName) prog_182_method_5_code (1 : Nat) (Option.none : Option Jvm.ClassFile.FieldType), Jvm.Cond.code ({ cls := "com/example/surety/surety/Search", name := "deadlock", desc := "(I)I" } : Jvm.MethodName) prog_182_method_8_code (2 : Nat) (Option.some Jvm.ClassFile.FieldType.int), Jvm.Cond.code ({ cls := "com/example/surety/surety/Search", name := "terminate", desc := "()V" } : Jvm.MethodName) prog_182_method_4_code (1 : Nat) (Option.none : Option Jvm.ClassFile.FieldType), Jvm.Cond.code ({ cls := "com/example/surety/surety/Search", name := "add", desc := "(II)V" } : Jvm.MethodName) prog_182_method_3_code (3 : Nat) (Option.none : Option Jvm.ClassFile.FieldType)]
set_option maxRecDepth 65536 in
theorem codes_eq : words1.filter isCode = codes1 := rfl
theorem w_codes : ∀ c ∈ words1.filter isCode, c.before args0 about1 = true := by
  rw [codes_eq]
  intro c hc
  simp only [codes1, List.mem_cons, List.not_mem_nil, or_false] at hc
  rcases hc with rfl | rfl | rfl | rfl | rfl | rfl | rfl | rfl | rfl | rfl | rfl
  · exact w_c0
  · exact w_c1
  · exact w_c2
  · exact w_c3
  · exact w_c4
  · exact w_c5
  · exact w_c6
  · exact w_c7
  · exact w_c8
  · exact w_c9
  · exact w_c10
set_option maxRecDepth 65536 in
theorem w_t1 : (words1.take 24).all (fun c => isCode c || c.before args0 about1) = true := by decide +kernel
set_option maxRecDepth 65536 in
theorem w_t2 : ((words1.drop 24).take 24).all (fun c => isCode c || c.before args0 about1) = true := by decide +kernel
set_option maxRecDepth 65536 in
theorem w_t3 : (((words1.drop 24).drop 24).take 24).all (fun c => isCode c || c.before args0 about1) = true := by decide +kernel
set_option maxRecDepth 65536 in
theorem w_t4 : (((words1.drop 24).drop 24).drop 24).all (fun c => isCode c || c.before args0 about1) = true := by decide +kernel
theorem w_tables : (allAtoms (Jvm.Cond.code x code maxLocals ret :: tables_1)).before args0 about1 = true := by
  rw [allAtoms_all]
  show words1.all (fun c => c.before args0 about1) = true
  refine all_split ?_ w_codes
  rw [← List.take_append_drop 24 words1, List.all_append, w_t1, ← List.take_append_drop 24 (words1.drop 24), List.all_append, w_t2, ← List.take_append_drop 24 ((words1.drop 24).drop 24), List.all_append, w_t3, w_t4]
  rfl
set_option maxRecDepth 65536 in
theorem w_rest : rest_1_c.before args0 about1 = true := by decide +kernel
set_option maxRecDepth 65536 in
theorem w_case : (Jvm.Cond.and given_1 narrow_1).before args0 about1 = true := by decide +kernel
theorem w_applies : (headSpec (Jvm.Cond.code x code maxLocals ret :: tables_1) room_1).applies x e0.platform about1 = true :=
  (Spec.applies_iff w_frames).mpr ⟨w_running, w_runnable, w_alone, w_named, w_hears, w_ripe, w_room, w_tables⟩
theorem atStart : AtStart classFile x code maxLocals ret World_1 tables_1 room_1 Calls_1 rest_1 Pre_1 launch0 p0 e0 about1 theMethod args0 below0 :=
  ⟨lists_1, trivial, launch0.admits_env _ _ _, launch0.least_env, fairChoices_fair.cas, fairChoices_fair.clock, w_frames, w_args, w_heap, w_applies, trivial, w_rest, w_case⟩
end start1
theorem witness_1 : WitnessClaimed_1 := ⟨start1.p0, start1.e0, start1.about1, start1.theMethod, start1.args0, start1.below0, start1.atStart⟩
end Jvm.Pilot.@@N@@
