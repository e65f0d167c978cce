import JvmDerived
import JvmDerived.Pilot.@@N@@Statement
import JvmDerived.Pilot.@@N@@Code
set_option linter.unusedVariables false
set_option linter.unusedSimpArgs false
@@BLOCK:NumsL.lean.txt@@
namespace Jvm.RoadKit
open Sem ClassFile Op Lib Jvm.Stand Jvm.Free Jvm.LawKit
section Goes
variable {p : Program} {l : Launch} {e : Env} {R : Room} {s : State} {m : MethodId} {args : Array Value} {below : List Frame} {meth : Method} {c : Code} {T : State} {locs : List Loc} {cells slots : Nat}
/-- from here the run comes to its return, and Q holds there -/
def Goes (p : Program) (e : Env) (below : List Frame) (s : State) (Q : Option Value → Heap → List Loc → Prop) (kc ks : Nat) (S : State) : Prop :=
  ∃ s₂ o, Steps p.tables e below S s₂ ∧ s₂.status = .running ∧ Ended s₂ below o ∧ ∃ v L, o = .returned v ∧ Q v s₂.heap L ∧ FrameEnd s o s₂ L kc ks
variable {Q Q' : Option Value → Heap → List Loc → Prop} {kc ks : Nat} {A B : State}
theorem Goes.go (h : ∀ t, Steps p.tables e below A t → Steps p.tables e below B t) (g : Goes p e below s Q kc ks A) : Goes p e below s Q kc ks B := by
  obtain ⟨s2, o, h1, h2⟩ := g
  exact ⟨s2, o, h _ h1, h2⟩
theorem Goes.tr (h : Steps p.tables e below B A) (g : Goes p e below s Q kc ks A) : Goes p e below s Q kc ks B := g.go fun _ k => h.trans k
theorem Goes.weaken (h : ∀ v hp L, Q' v hp L → Q v hp L) (g : Goes p e below s Q' kc ks A) : Goes p e below s Q kc ks A := by
  obtain ⟨s2, o, h1, h2, h3, v, L, h4, h5, h6⟩ := g
  exact ⟨s2, o, h1, h2, h3, v, L, h4, h _ _ _ h5, h6⟩
theorem Goes.castQ (h : Q = Q') (g : Goes p e below s Q' kc ks A) : Goes p e below s Q kc ks A := h ▸ g
theorem Goes.out (X : Stand p l e R s m args below meth c T locs cells slots) (hlk : meth.locks = false) {v : Option Value} (hv : meth.sig.returnType = none → v = none) {F : State}
    (hstep : ∀ fs, (∀ (f : JFrame) (acts : List Action), f.method = m → f.locked = none → f.entered = [] → (doReturn e (T.setTop f) acts v).1 = T.setFrames fs) → Steps p.tables e below F (T.setFrames fs))
    (hq : Q v T.heap locs) (hc : cells ≤ kc) (hs : slots ≤ ks) : Goes p e below s Q kc ks F := by
  obtain ⟨fs, hr, hrun, hended, hW, hsame⟩ := X.leave (v := v) hv hlk
  exact ⟨_, _, hstep fs hr, hrun, hended, _, _, rfl, hq, ⟨_, rfl⟩, hW, hsame.mono hc hs⟩
theorem retI (X : Stand p l e R s m args below meth c T locs cells slots) (hx : p.tables.exec = Jvm.exec) {pc : Nat} {Ls : Array Slot} {z : Int32} {rest : List Value} (hret : meth.sig.returnType = some .int) (hd : decode c.code pc = .ok (.ireturn, 1)) {fs : List Frame}
    (hl : ∀ (f : JFrame) (acts : List Action), f.method = m → f.locked = none → f.entered = [] → (doReturn e (T.setTop f) acts (some (.int z))).1 = T.setFrames fs) : Steps p.tables e below (T.setTop (mkF m pc Ls (.int z :: rest))) (T.setFrames fs) := by
  have hm' : T.vm.method? m = some meth := X.method'
  have hn : narrow .int (.int z) = .int z := rfl
  show Steps p.tables e below (T.setTop { method := m, pc := pc, locals := Ls, stack := _ :: rest, locked := none }) _
  jvm_step X.here [X.here.top, hx, hd, hm', hret, hn]
  first | (intro acts; rw [hl _ acts rfl rfl rfl]) | rw [hl _ _ rfl rfl rfl]
  exact Steps.refl _
theorem Goes.retI (X : Stand p l e R s m args below meth c T locs cells slots) (hx : p.tables.exec = Jvm.exec) (hlk : meth.locks = false) (hret : meth.sig.returnType = some .int) {pc : Nat} {Ls : Array Slot} {z : Int32} {rest : List Value} (hd : decode c.code pc = .ok (.ireturn, 1))
    (hq : Q (some (.int z)) T.heap locs) (hc : cells ≤ kc) (hs : slots ≤ ks) : Goes p e below s Q kc ks (T.setTop (mkF m pc Ls (.int z :: rest))) :=
  Goes.out X hlk (fun h => by rw [hret] at h; cases h) (fun fs hr => Jvm.RoadKit.retI X hx hret hd hr) hq hc hs
theorem Goes.retN (t : FieldType) (X : Stand p l e R s m args below meth c T locs cells slots) (hx : p.tables.exec = Jvm.exec) (hlk : meth.locks = false) (hret : meth.sig.returnType = some t) (ht : t = .boolean ∨ t = .byte ∨ t = .char ∨ t = .short) {pc : Nat} {Ls : Array Slot} {z : Int32} {rest : List Value} (hd : decode c.code pc = .ok (.ireturn, 1))
    (hq : Q (some (.int (nar t z))) T.heap locs) (hc : cells ≤ kc) (hs : slots ≤ ks) : Goes p e below s Q kc ks (T.setTop (mkF m pc Ls (.int z :: rest))) :=
  Goes.out X hlk (fun h => by rw [hret] at h; cases h) (fun fs hr => Jvm.RoadKit.retN X hx hret ht hd hr) hq hc hs
theorem Goes.ret0 (X : Stand p l e R s m args below meth c T locs cells slots) (hx : p.tables.exec = Jvm.exec) (hlk : meth.locks = false) (hret : meth.sig.returnType = none) {pc : Nat} {Ls : Array Slot} (hd : decode c.code pc = .ok (.return_, 1))
    (hq : Q none T.heap locs) (hc : cells ≤ kc) (hs : slots ≤ ks) : Goes p e below s Q kc ks (T.setTop (mkF m pc Ls [])) :=
  Goes.out X hlk (fun _ => rfl) (fun fs hr => X.returnOut hx hret hd hr) hq hc hs
theorem Goes.retJ (X : Stand p l e R s m args below meth c T locs cells slots) (hx : p.tables.exec = Jvm.exec) (hlk : meth.locks = false) (hret : meth.sig.returnType = some .long) {pc : Nat} {Ls : Array Slot} {z : Int64} (hd : decode c.code pc = .ok (.lreturn, 1))
    (hq : Q (some (.long z)) T.heap locs) (hc : cells ≤ kc) (hs : slots ≤ ks) : Goes p e below s Q kc ks (T.setTop (mkF m pc Ls [.long z])) :=
  Goes.out X hlk (fun h => by rw [hret] at h; cases h) (fun fs hr => X.lreturnOut hx hret hd hr) hq hc hs
theorem Goes.retA (X : Stand p l e R s m args below meth c T locs cells slots) (hx : p.tables.exec = Jvm.exec) (hlk : meth.locks = false) {w : Value} (hw : w.isRef = true) {t : FieldType} (hret : meth.sig.returnType = some t) (ht : t.isReference = true) {pc : Nat} {Ls : Array Slot} (hd : decode c.code pc = .ok (.areturn, 1))
    (hq : Q (some w) T.heap locs) (hc : cells ≤ kc) (hs : slots ≤ ks) : Goes p e below s Q kc ks (T.setTop (mkF m pc Ls [w])) :=
  Goes.out X hlk (fun h => by rw [hret] at h; cases h) (fun fs hr => X.areturnOut hx hw hret ht hd hr) hq hc hs
/-- the answer of a method that writes nothing -/
def Qp (z : Value) (h0 : Heap) (n0 : Nat) (v : Option Value) (h : Heap) (L : List Loc) : Prop := v = some z ∧ Fr n0 L ∧ h = h0
/-- the answer of a method that writes nothing and returns nothing -/
def Qn (h0 : Heap) (n0 : Nat) (v : Option Value) (h : Heap) (L : List Loc) : Prop := v = none ∧ Fr n0 L ∧ h = h0
theorem Goes.qi {z z' : Int32} {h0 : Heap} {n0 : Nat} (h : z = z') (g : Goes p e below s (Qp (.int z') h0 n0) kc ks A) : Goes p e below s (Qp (.int z) h0 n0) kc ks A := h ▸ g
theorem Goes.qj {z z' : Int64} {h0 : Heap} {n0 : Nat} (h : z = z') (g : Goes p e below s (Qp (.long z') h0 n0) kc ks A) : Goes p e below s (Qp (.long z) h0 n0) kc ks A := h ▸ g
end Goes
end Jvm.RoadKit
namespace Jvm.RoadKit
open Sem ClassFile Op Lib Jvm.Stand Jvm.Free Jvm.LawKit
/-- an array of ints (bytes, chars, booleans): its length and what each place holds -/
def IA (Z : State) (h : Heap) (a : Addr) (ty : FieldType) (n : Nat) (f : Nat → Int32) : Prop :=
  ∃ c : Cell, Arr Z h a c ty ∧ c.slots.size = n ∧ n < 2 ^ 31 ∧ ∀ i, i < n → c.slots[i]? = some (.int (f i)) ∧ fits ty (.int (f i)) = true
def own_upd (f : Nat → Int32) (i : Nat) (v : Int32) : Nat → Int32 := fun k => if k = i then v else f k
section IAs
variable {p : Program} {l : Launch} {e : Env} {R : Room} {s : State} {m : MethodId} {args : Array Value} {below : List Frame} {meth : Method} {c : Code} {T : State} {locs : List Loc} {cells slots : Nat} {Z : State} {a0 : Array Value} {h h' : Heap} {a b : Addr} {ty : FieldType} {n : Nat} {f f' : Nat → Int32} {sl : Nat} {v : Value} {ws : List Addr}
theorem IA.lt (F : IA Z h a ty n f) : a < h.size := by obtain ⟨c, A, -⟩ := F; exact A.lt
theorem IA.ext (F : IA Z h a ty n f) (E : Ext h h') : IA Z h' a ty n f := by obtain ⟨c, A, r⟩ := F; exact ⟨c, A.ext E, r⟩
theorem IA.other (F : IA Z h b ty n f) (W : Wr h h' a sl v) (q : b ≠ a) : IA Z h' b ty n f := by obtain ⟨c, A, r⟩ := F; exact ⟨c, A.other W q, r⟩
theorem IA.keep (F : IA Z h a ty n f) (K : Keep h h' ws) (q : a ∉ ws) : IA Z h' a ty n f := by obtain ⟨c, A, r⟩ := F; exact ⟨c, ⟨K.2.1 a c A.1 q, A.2⟩, r⟩
theorem IA.as (F : IA Z h a ty n f) (q : ∀ i, i < n → f i = f' i) : IA Z h a ty n f' := by
  obtain ⟨c, A, S, M, H⟩ := F
  exact ⟨c, A, S, M, fun i hi => by rw [← q i hi]; exact H i hi⟩
theorem IA.bound (F : IA Z h a ty n f) : n < 2 ^ 31 := by obtain ⟨c, A, S, M, H⟩ := F; exact M
theorem own_nat {i : Nat} (hi : i < 2 ^ 31) : (Int32.ofNat i).toInt = i := Int32.toInt_ofNat_of_lt (by omega)
theorem own_cl {i : Nat} (hi : i < 2 ^ 31) : (Int32.ofNat i).toNatClampNeg = i := by
  have := own_nat hi
  show (Int32.ofNat i).toInt.toNat = i
  omega
theorem own_in {i : Nat} (hi : i < n) (hn : n < 2 ^ 31) : ¬ (Int32.ofNat i < 0 ∨ n ≤ (Int32.ofNat i).toNatClampNeg) := by
  rw [own_cl (by omega)]
  rintro (q | q)
  · have := Int32.lt_iff_toInt_lt.mp q
    rw [own_nat (by omega)] at this
    have z : (0 : Int32).toInt = 0 := rfl
    omega
  · omega
theorem IA.set {c : Cell} (A : Arr Z h a c ty) (S : c.slots.size = n) (M : n < 2 ^ 31) (H : ∀ i, i < n → c.slots[i]? = some (.int (f i)) ∧ fits ty (.int (f i)) = true) {i : Nat} (hi : i < n) {x : Int32} (hx : fits ty (.int x) = true) (W : Wr h h' a i (.int x)) : IA Z h' a ty n (own_upd f i x) := by
  refine ⟨c.setSlot i (.int x), A.same W, by rw [sz_set]; exact S, M, fun k hk => ?_⟩
  by_cases q : k = i
  · subst q
    simp only [own_upd, if_pos]
    exact ⟨by simp [Cell.setSlot, S, hk], hx⟩
  · simp only [own_upd, if_neg q]
    refine ⟨?_, (H k hk).2⟩
    rw [← (H k hk).1]
    simp only [Cell.setSlot]
    exact Array.getElem?_setIfInBounds_ne (Ne.symm q)
theorem own_newA (X : Stand p l e R s m args below meth c T locs cells slots) (hx : p.tables.exec = Jvm.exec) (hZ : Z.Warmed39 s.vm) {aty : ArrayType} (w : (Cond.arrayClass (newarray.typeOf aty)).before a0 Z = true) (eT : T.heap = h) {g : JFrame} (hg : g.method = m) (hd : decode c.code g.pc = .ok (.newarray aty, 2)) {z : Int32} {rest : List Value} (hs : g.stack = .int z :: rest)
    {n : Nat} (hz : z = Int32.ofNat n) {cap : Nat} (hcap : n ≤ cap) (hb : cap * 8 ≤ 536870912) (hc : cells + 1 ≤ R.cells) (hl : slots + cap ≤ R.slots) (hdv : defaultValue (newarray.typeOf aty) = .int 0) (hft : fits (newarray.typeOf aty) (.int 0) = true) {ad : String} (had : "[" ++ (newarray.typeOf aty).toString = ad) :
    ∃ T' h', Stand p l e R s m args below meth c T' locs (cells + 1) (slots + cap) ∧ T'.heap = h' ∧ Ext h h' ∧ IA Z h' h.size (newarray.typeOf aty) n (fun _ => 0) ∧ Exa Z h' h.size ad ∧
      ∀ target, Steps p.tables e below (T'.setTop { g with pc := g.pc + 2, stack := .ref h.size :: rest }) target → Steps p.tables e below (T.setTop g) target := by
  have hn31 : n < 2 ^ 31 := by omega
  have hcl : z.toNatClampNeg = n := by rw [hz]; exact own_cl hn31
  have hneg : ¬ z < 0 := by
    rw [hz]; intro q
    have := Int32.lt_iff_toInt_lt.mp q
    rw [own_nat hn31] at this
    have z : (0 : Int32).toInt = 0 := rfl
    omega
  obtain ⟨T', h', cA, X', e', E, A, EX, st⟩ := newPE X hx hZ w eT hg hd hs hneg (cap := cap) (by rw [hcl]; exact hcap) hb hc hl had
  refine ⟨T', h', X', e', E, ⟨_, A, by rw [sz_new]; exact hcl, hn31, fun i hi => ⟨?_, hft⟩⟩, EX, st⟩
  have := get_new (cA := cA) (ty := newarray.typeOf aty) (n := z) (k := Int32.ofNat i) (by rw [hcl]; exact own_in hi hn31)
  rw [own_cl (by omega), hdv] at this
  exact this
theorem own_stI (X : Stand p l e R s m args below meth c T locs cells slots) (hx : p.tables.exec = Jvm.exec) (hZ : Z.Warmed39 s.vm) (eT : T.heap = h) (A : IA Z h a .int n f) {j x : Int32} {i : Nat} (hj : j = Int32.ofNat i) (hi : i < n) {g : JFrame} (hg : g.method = m) {rest : List Value} (hs : g.stack = .int x :: .int j :: .ref a :: rest) (hd : decode c.code g.pc = .ok (.iastore, 1)) :
    ∃ T' h', Stand p l e R s m args below meth c T' (locs ++ [⟨a, i⟩]) cells slots ∧ T'.heap = h' ∧ Wr h h' a i (.int x) ∧ IA Z h' a .int n (own_upd f i x) ∧ ∀ target, Steps p.tables e below (T'.setTop { g with pc := g.pc + 1, stack := rest }) target → Steps p.tables e below (T.setTop g) target := by
  obtain ⟨cl, A, S, M, H⟩ := A
  subst hj
  obtain ⟨T', h', X', e', W, st⟩ := stI X hx hZ eT A (j := Int32.ofNat i) (by rw [S]; exact own_in hi M) hg hs hd
  rw [own_cl (by omega)] at X' W
  exact ⟨T', h', X', e', W, IA.set A S M H hi rfl W, st⟩
theorem own_stB (X : Stand p l e R s m args below meth c T locs cells slots) (hx : p.tables.exec = Jvm.exec) (hZ : Z.Warmed39 s.vm) (eT : T.heap = h) (A : IA Z h a .byte n f) {j x : Int32} {i : Nat} (hj : j = Int32.ofNat i) (hi : i < n) {g : JFrame} (hg : g.method = m) {rest : List Value} (hs : g.stack = .int x :: .int j :: .ref a :: rest) (hd : decode c.code g.pc = .ok (.bastore, 1)) :
    ∃ T' h', Stand p l e R s m args below meth c T' (locs ++ [⟨a, i⟩]) cells slots ∧ T'.heap = h' ∧ Wr h h' a i (.int (nar .byte x)) ∧ IA Z h' a .byte n (own_upd f i (nar .byte x)) ∧ ∀ target, Steps p.tables e below (T'.setTop { g with pc := g.pc + 1, stack := rest }) target → Steps p.tables e below (T.setTop g) target := by
  obtain ⟨cl, A, S, M, H⟩ := A
  subst hj
  obtain ⟨T', h', X', e', W, st⟩ := stB X hx hZ eT A (j := Int32.ofNat i) (by rw [S]; exact own_in hi M) hg hs hd
  rw [own_cl (by omega)] at X' W
  exact ⟨T', h', X', e', W, IA.set A S M H hi (fits_nar_byte _) W, st⟩
theorem own_stC (X : Stand p l e R s m args below meth c T locs cells slots) (hx : p.tables.exec = Jvm.exec) (hZ : Z.Warmed39 s.vm) (eT : T.heap = h) (A : IA Z h a .char n f) {j x : Int32} {i : Nat} (hj : j = Int32.ofNat i) (hi : i < n) {g : JFrame} (hg : g.method = m) {rest : List Value} (hs : g.stack = .int x :: .int j :: .ref a :: rest) (hd : decode c.code g.pc = .ok (.castore, 1)) :
    ∃ T' h', Stand p l e R s m args below meth c T' (locs ++ [⟨a, i⟩]) cells slots ∧ T'.heap = h' ∧ Wr h h' a i (.int (nar .char x)) ∧ IA Z h' a .char n (own_upd f i (nar .char x)) ∧ ∀ target, Steps p.tables e below (T'.setTop { g with pc := g.pc + 1, stack := rest }) target → Steps p.tables e below (T.setTop g) target := by
  obtain ⟨cl, A, S, M, H⟩ := A
  subst hj
  obtain ⟨T', h', X', e', W, st⟩ := stC X hx hZ eT A (j := Int32.ofNat i) (by rw [S]; exact own_in hi M) hg hs hd
  rw [own_cl (by omega)] at X' W
  exact ⟨T', h', X', e', W, IA.set A S M H hi (fits_nar_char _) W, st⟩
theorem own_stZ (X : Stand p l e R s m args below meth c T locs cells slots) (hx : p.tables.exec = Jvm.exec) (hZ : Z.Warmed39 s.vm) (eT : T.heap = h) (A : IA Z h a .boolean n f) {j x : Int32} {i : Nat} (hj : j = Int32.ofNat i) (hi : i < n) {g : JFrame} (hg : g.method = m) {rest : List Value} (hs : g.stack = .int x :: .int j :: .ref a :: rest) (hd : decode c.code g.pc = .ok (.bastore, 1)) :
    ∃ T' h', Stand p l e R s m args below meth c T' (locs ++ [⟨a, i⟩]) cells slots ∧ T'.heap = h' ∧ Wr h h' a i (.int (nar .boolean x)) ∧ IA Z h' a .boolean n (own_upd f i (nar .boolean x)) ∧ ∀ target, Steps p.tables e below (T'.setTop { g with pc := g.pc + 1, stack := rest }) target → Steps p.tables e below (T.setTop g) target := by
  obtain ⟨cl, A, S, M, H⟩ := A
  subst hj
  obtain ⟨T', h', X', e', W, st⟩ := stZ X hx hZ eT A (j := Int32.ofNat i) (by rw [S]; exact own_in hi M) hg hs hd
  rw [own_cl (by omega)] at X' W
  exact ⟨T', h', X', e', W, IA.set A S M H hi (fits_nar_bool _) W, st⟩
theorem own_ldI (X : Stand p l e R s m args below meth c T locs cells slots) (hx : p.tables.exec = Jvm.exec) (hZ : Z.Warmed39 s.vm) (eT : T.heap = h) (A : IA Z h a .int n f) {j : Int32} {i : Nat} (hj : j = Int32.ofNat i) (hi : i < n) {g : JFrame} (hg : g.method = m) {rest : List Value} (hs : g.stack = .int j :: .ref a :: rest) (hd : decode c.code g.pc = .ok (.iaload, 1)) :
    ∀ target, Steps p.tables e below (T.setTop { g with pc := g.pc + 1, stack := .int (f i) :: rest }) target → Steps p.tables e below (T.setTop g) target := by
  obtain ⟨cl, A, S, M, H⟩ := A
  subst hj
  exact X.iaload hx (j := Int32.ofNat i) (v := .int (f i)) (by rw [eT]; exact A.1) (State.isArrayOf_alike hZ.alike A.2.1) A.2.2 (by rw [S]; exact own_in hi M) (by rw [own_cl (by omega)]; exact (H i hi).1) hg hs hd
theorem own_ldB (X : Stand p l e R s m args below meth c T locs cells slots) (hx : p.tables.exec = Jvm.exec) (hZ : Z.Warmed39 s.vm) (eT : T.heap = h) (A : IA Z h a .byte n f) {j : Int32} {i : Nat} (hj : j = Int32.ofNat i) (hi : i < n) {g : JFrame} (hg : g.method = m) {rest : List Value} (hs : g.stack = .int j :: .ref a :: rest) (hd : decode c.code g.pc = .ok (.baload, 1)) :
    ∀ target, Steps p.tables e below (T.setTop { g with pc := g.pc + 1, stack := .int (f i) :: rest }) target → Steps p.tables e below (T.setTop g) target := by
  obtain ⟨cl, A, S, M, H⟩ := A
  subst hj
  exact X.baloadBytes hx (j := Int32.ofNat i) (v := .int (f i)) (by rw [eT]; exact A.1) (State.isArrayOf_alike hZ.alike A.2.1) A.2.2 (by rw [S]; exact own_in hi M) (by rw [own_cl (by omega)]; exact (H i hi).1) hg hs hd
theorem own_ldZ (X : Stand p l e R s m args below meth c T locs cells slots) (hx : p.tables.exec = Jvm.exec) (hZ : Z.Warmed39 s.vm) (eT : T.heap = h) (A : IA Z h a .boolean n f) {j : Int32} {i : Nat} (hj : j = Int32.ofNat i) (hi : i < n) {g : JFrame} (hg : g.method = m) {rest : List Value} (hs : g.stack = .int j :: .ref a :: rest) (hd : decode c.code g.pc = .ok (.baload, 1)) :
    ∀ target, Steps p.tables e below (T.setTop { g with pc := g.pc + 1, stack := .int (f i) :: rest }) target → Steps p.tables e below (T.setTop g) target := by
  obtain ⟨cl, A, S, M, H⟩ := A
  subst hj
  exact X.baloadBooleans hx (j := Int32.ofNat i) (v := .int (f i)) (by rw [eT]; exact A.1) (State.isArrayOf_alike hZ.alike A.2.1) A.2.2 (by rw [S]; exact own_in hi M) (by rw [own_cl (by omega)]; exact (H i hi).1) hg hs hd
theorem own_ldC (X : Stand p l e R s m args below meth c T locs cells slots) (hx : p.tables.exec = Jvm.exec) (hZ : Z.Warmed39 s.vm) (eT : T.heap = h) (A : IA Z h a .char n f) {j : Int32} {i : Nat} (hj : j = Int32.ofNat i) (hi : i < n) {g : JFrame} (hg : g.method = m) {rest : List Value} (hs : g.stack = .int j :: .ref a :: rest) (hd : decode c.code g.pc = .ok (.caload, 1)) :
    ∀ target, Steps p.tables e below (T.setTop { g with pc := g.pc + 1, stack := .int (f i) :: rest }) target → Steps p.tables e below (T.setTop g) target := by
  obtain ⟨cl, A, S, M, H⟩ := A
  subst hj
  exact X.caload hx (j := Int32.ofNat i) (v := .int (f i)) (by rw [eT]; exact A.1) (State.isArrayOf_alike hZ.alike A.2.1) A.2.2 (by rw [S]; exact own_in hi M) (by rw [own_cl (by omega)]; exact (H i hi).1) hg hs hd
theorem own_len (X : Stand p l e R s m args below meth c T locs cells slots) (hx : p.tables.exec = Jvm.exec) (hZ : Z.Warmed39 s.vm) (eT : T.heap = h) (A : IA Z h a ty n f) {g : JFrame} (hg : g.method = m) {rest : List Value} (hs : g.stack = .ref a :: rest) (hd : decode c.code g.pc = .ok (.arraylength, 1)) :
    ∀ target, Steps p.tables e below (T.setTop { g with pc := g.pc + 1, stack := .int (Int32.ofNat n) :: rest }) target → Steps p.tables e below (T.setTop g) target := by
  obtain ⟨cl, A, S, M, H⟩ := A
  subst S
  exact X.arraylength hx (by rw [eT]; exact A.1) (State.isArrayOf_alike hZ.alike A.2.1) hg hs hd
end IAs
end Jvm.RoadKit
namespace Jvm.RoadKit
open Sem ClassFile Op Lib Jvm.Stand Jvm.Free Jvm.LawKit
theorem own_eqNat {x : Int32} {n : Nat} (h : x.toInt = n) : x = Int32.ofNat n := Int32.toInt_inj.mp (by rw [h, own_nat (by have := x.toInt_lt; omega)])
theorem own_andN (x m : Int32) (k : Nat) (hk : k < 32) (hm : m.toBitVec.toNat = 2 ^ k - 1) : ∃ n : Nat, n < 2 ^ k ∧ x &&& m = Int32.ofNat n := by
  have h := Jvm.Kit.i32_mask x m hk hm
  have hpos : (0 : Int) < 2 ^ k := Int.pow_pos (by decide)
  have h1 := Int.emod_nonneg x.toInt (Int.ne_of_gt hpos)
  have h2 := Int.emod_lt_of_pos x.toInt hpos
  refine ⟨(x.toInt % 2 ^ k).toNat, ?_, own_eqNat ?_⟩
  · have e : ((2 ^ k : Nat) : Int) = (2 : Int) ^ k := by rw [Int.natCast_pow]; rfl
    omega
  · rw [h]; omega
theorem own_modN (x : Int32) (d : Nat) (h0 : 0 < d) (hd : d < 2 ^ 31) : ∃ n : Nat, n < d ∧ (x &&& 2147483647) % Int32.ofNat d = Int32.ofNat n := by
  have h := Jvm.Kit.i32_mask x 2147483647 (k := 31) (by decide) (by decide)
  have h1 := Int.emod_nonneg x.toInt (show (2 : Int) ^ 31 ≠ 0 by decide)
  have e := Jvm.Kit.i32_rem_nonneg (x := x &&& 2147483647) (y := Int32.ofNat d) (by rw [h]; exact h1)
  rw [own_nat hd] at e
  have h2 := Int.emod_nonneg (x &&& 2147483647).toInt (show (d : Int) ≠ 0 by omega)
  have h3 := Int.emod_lt_of_pos (x &&& 2147483647).toInt (show (0 : Int) < d by omega)
  exact ⟨((x &&& 2147483647).toInt % d).toNat, by omega, own_eqNat (by rw [e]; omega)⟩
theorem own_lt {i n : Nat} (hi : i < 2 ^ 31) (hn : n < 2 ^ 31) : Int32.ofNat i < Int32.ofNat n ↔ i < n := by
  rw [Int32.lt_iff_toInt_lt, own_nat hi, own_nat hn]; omega
theorem own_inj {i n : Nat} (hi : i < 2 ^ 31) (hn : n < 2 ^ 31) : Int32.ofNat i = Int32.ofNat n ↔ i = n := by
  rw [← Int32.toInt_inj, own_nat hi, own_nat hn]; omega
theorem own_add {i n : Nat} (h : i + n < 2 ^ 31) : Int32.ofNat i + Int32.ofNat n = Int32.ofNat (i + n) :=
  own_eqNat (by rw [Jvm.Kit.i32_add (by rw [own_nat (by omega), own_nat (by omega)]; omega) (by rw [own_nat (by omega), own_nat (by omega)]; omega), own_nat (by omega), own_nat (by omega)]; omega)
end Jvm.RoadKit
namespace Jvm.RoadKit
open Sem ClassFile Op Lib Jvm.Stand Jvm.Free Jvm.LawKit
section Switch
variable {p : Program} {l : Launch} {e : Env} {R : Room} {s : State} {m : MethodId} {args : Array Value} {below : List Frame} {meth : Method} {c : Code} {T : State} {locs : List Loc} {cells slots : Nat}
theorem own_lswH (X : Stand p l e R s m args below meth c T locs cells slots) (hx : p.tables.exec = Jvm.exec) {g : JFrame} (hg : g.method = m) {k : Int32} {rest : List Value} {pc0 pc' : Nat} (hpc : g.pc = pc0)
    (hs : g.stack = .int k :: rest) {dflt : Int} {pairs : Array (Int × Int)} {len : Nat} (hd : decode c.code g.pc = .ok (.lookupswitch dflt pairs, len))
    (hsorted : (pairs.toList.zip (pairs.toList.drop 1)).all (fun (a, next) => a.1 < next.1) = true) {a off : Int} (hfind : pairs.find? (·.1 == k.toInt) = some (a, off)) (ho : 0 ≤ (pc0 : Int) + off) (hp : ((pc0 : Int) + off).toNat = pc')
    (target : State) (hr : Steps p.tables e below (T.setTop { g with pc := pc', stack := rest }) target) : Steps p.tables e below (T.setTop g) target := by
  subst hpc hp
  exact X.lookupswitchHit hx hg hs hd hsorted hfind ho target hr
theorem own_lswM (X : Stand p l e R s m args below meth c T locs cells slots) (hx : p.tables.exec = Jvm.exec) {g : JFrame} (hg : g.method = m) {k : Int32} {rest : List Value} {pc0 pc' : Nat} (hpc : g.pc = pc0)
    (hs : g.stack = .int k :: rest) {dflt : Int} {pairs : Array (Int × Int)} {len : Nat} (hd : decode c.code g.pc = .ok (.lookupswitch dflt pairs, len))
    (hsorted : (pairs.toList.zip (pairs.toList.drop 1)).all (fun (a, next) => a.1 < next.1) = true) (hfind : ∀ q ∈ pairs.toList, q.1 ≠ k.toInt) (ho : 0 ≤ (pc0 : Int) + dflt) (hp : ((pc0 : Int) + dflt).toNat = pc')
    (target : State) (hr : Steps p.tables e below (T.setTop { g with pc := pc', stack := rest }) target) : Steps p.tables e below (T.setTop g) target := by
  subst hpc hp
  exact X.lookupswitchMiss hx hg hs hd hsorted (find_miss hfind) ho target hr
theorem own_nk {x y : Int32} {z : Int} (hz : y.toInt = z) (h : ¬ x = y) : z ≠ x.toInt := fun q => h (Int32.toInt_inj.mp (q.symm.trans hz.symm))
end Switch
end Jvm.RoadKit
namespace Jvm.RoadKit
open Sem ClassFile Op Lib Jvm.Stand Jvm.Free Jvm.LawKit
section Statics
variable {Z : State} {args : Array Value} {C n d K : String} {t : Term} {a : Addr}
theorem own_sta (h : (Cond.exactly (.static C n d) K).value args Z none Z [] = some true) (hi : (Cond.initialized C).before args Z = true) (hl : (Cond.laysStatic C n d).before args Z = true) : ∃ a, (Term.static C n d).eval args Z none [] Z = some (.ref a) ∧ Sta Z Z.heap C n d (.ref a) ∧ Exa Z Z.heap a K := by
  obtain ⟨a, e⟩ := exa_v h
  exact ⟨a, e, Sta.start e (Or.inr ⟨hi, hl⟩), Exa.start e h⟩
theorem own_stfI {k : Int32} (e : t.eval args Z none [] Z = some (.ref a)) (h : (Cond.eq (.field t C n d) (.int k)).value args Z none Z [] = some true) : Fld Z Z.heap a C n d (.int k) := by
  apply Fld.start
  simp only [Cond.value, Term.eval, e, Option.bind_eq_bind, Option.bind_some] at h
  cases hf : Z.fieldOf? a C n d with
  | none => simp [hf] at h
  | some x => cases x <;> simp [hf] at h ⊢; exact h
theorem own_stfJ {k : Int64} (e : t.eval args Z none [] Z = some (.ref a)) (h : (Cond.eq (.field t C n d) (.long k)).value args Z none Z [] = some true) : Fld Z Z.heap a C n d (.long k) := by
  apply Fld.start
  simp only [Cond.value, Term.eval, e, Option.bind_eq_bind, Option.bind_some] at h
  cases hf : Z.fieldOf? a C n d with
  | none => simp [hf] at h
  | some x => cases x <;> simp [hf] at h ⊢; exact h
end Statics
end Jvm.RoadKit
namespace Jvm.RoadKit
open Sem ClassFile Op Lib Jvm.Stand Jvm.Free Jvm.LawKit
theorem own_lrem {tb : Tables} [Ours tb] {e : Env} {below : List Frame} {T target : State} {m : MethodId} {c : Code} {g : JFrame} (h : At T m c below) (hx : tb.exec = Jvm.exec) (hg : g.method = m) {x y : Int64} {rest : List Value} (hd : decode c.code g.pc = .ok (.lrem, 1)) (hs : g.stack = .long y :: .long x :: rest) (hy : y ≠ 0)
    (hr : Steps tb e below (T.setTop { g with pc := g.pc + 1, stack := .long (x % y) :: rest }) target) : Steps tb e below (T.setTop g) target :=
  XS.lrem h hx hg hd hs hy (by rw [lrem_mod]; exact hr)
theorem own_irem_mod (x y : Int32) : x - (x / y) * y = x % y := by
  apply Int32.toInt_inj.mp
  have h1 := Int32.le_toInt (x % y)
  have h2 := Int32.toInt_lt (x % y)
  rw [Int32.toInt_sub, Int32.toInt_mul, Int32.toInt_div, Int.bmod_mul_bmod, Int.sub_bmod_bmod, Int.mul_comm (x.toInt.tdiv y.toInt), ← Int.tmod_def, ← Int32.toInt_mod]
  exact Int.bmod_eq_of_le_mul_two (by omega) (by omega)
theorem own_irem {tb : Tables} [Ours tb] {e : Env} {below : List Frame} {T target : State} {m : MethodId} {c : Code} {g : JFrame} (h : At T m c below) (hx : tb.exec = Jvm.exec) (hg : g.method = m) {x y : Int32} {rest : List Value} (hd : decode c.code g.pc = .ok (.irem, 1)) (hs : g.stack = .int y :: .int x :: rest) (hy : y ≠ 0)
    (hr : Steps tb e below (T.setTop { g with pc := g.pc + 1, stack := .int (x % y) :: rest }) target) : Steps tb e below (T.setTop g) target :=
  XS.irem h hx hg hd hs hy (by rw [own_irem_mod]; exact hr)
theorem own_div1 (x : Int64) : x / 1 = x := Int64.toInt_inj.mp (by
  rw [Jvm.Kit.i64_div (fun q => by have := q.2; revert this; decide)]
  show x.toInt.tdiv 1 = x.toInt
  exact Int.tdiv_one _)
end Jvm.RoadKit
namespace Jvm.RoadKit
open Sem ClassFile Op Lib Jvm.Stand Jvm.Free Jvm.LawKit
theorem own_kx {h h' : Heap} (K : Keep h h' []) : Ext h h' := ⟨K.1, fun a c q => K.2.1 a c q nin0⟩
section Unlike
variable {Z : State} {a0 : Array Value}
theorem own_nsroot {O K : String} {n : Nat} (w : (Cond.noSuperclass O).before a0 Z = true) (wk : (Cond.instantiable K n).before a0 Z = true) (hn : O ≠ K) : NS Z O K := by
  obtain ⟨c, k, h1, h2, h3, -, -⟩ := Cond.noSuperclass_spec w
  obtain ⟨t, k', g1, g2, -⟩ := Cond.instantiable_spec wk
  have ne := ids_ne h1 g1 hn
  refine ⟨c, t, h1, g1, fun fuel => ?_⟩
  cases fuel with
  | zero => rfl
  | succ f => simp [Vm.isSubclassAux, ne, h2, h3]
theorem own_nsno {C S K : String} {n : Nat} (w : (Cond.superclass C S).before a0 Z = true) (wk : (Cond.instantiable K n).before a0 Z = true) (N : NS Z C K) (hn : C ≠ K) : ∃ c t, Z.vm.findClass C = some c ∧ Z.vm.findClass K = some t ∧ Z.vm.assignable c t = false := by
  obtain ⟨c, t, h0, g0, n3⟩ := N
  obtain ⟨p, k, kp, h1, h2, h3, h4, h5, -, h7⟩ := Cond.superclass_spec h0 w
  obtain ⟨t', k', g1, g2, g3, g4, -⟩ := Cond.instantiable_spec wk
  cases g0.symm.trans g1
  have g7 : k'.isInterface = false := by
    cases hq : k'.isInterface with
    | false => rfl
    | true => rw [hq] at g4; simp at g4
  have ne := ids_ne h0 g0 hn
  refine ⟨c, t, h0, g0, ?_⟩
  show Z.vm.assignableAux (255 + 1) c t = false
  simp [Vm.assignableAux, ne, h2, g2, h5, g3, g7, Vm.isSubclass, n3]
end Unlike
end Jvm.RoadKit
namespace Jvm.RoadKit
open Sem ClassFile Op Lib Jvm.Stand Jvm.Free Jvm.LawKit
section Clone
variable {p : Program} {l : Launch} {e : Env} {R : Room} {s : State} {m : MethodId} {args : Array Value} {below : List Frame} {meth : Method} {c : Code} {T : State} {locs : List Loc} {cells slots : Nat} {Z : State} {a0 : Array Value} {h : Heap} {a : Addr} {ty : FieldType} {n : Nat} {f : Nat → Int32}
theorem own_clone (X : Stand p l e R s m args below meth c T locs cells slots) (hx : p.tables.exec = Jvm.exec) (hZ : Z.Warmed39 s.vm) {own ad : String} {index : Nat} (hown : s.vm.findClass own = some m.cls)
    (w1 : (Cond.methodLink own index ⟨ad, "clone", "()Ljava/lang/Object;"⟩).before a0 Z = true) (w2 : (Cond.sameMethod ad "java/lang/Object" "clone" "()Ljava/lang/Object;").before a0 Z = true) (w3 : (Cond.native ⟨"java/lang/Object", "clone", "()Ljava/lang/Object;"⟩).before a0 Z = true)
    (w4 : (Cond.instanceMethod ⟨"java/lang/Object", "clone", "()Ljava/lang/Object;"⟩).before a0 Z = true) (w5 : (Cond.selects ad ⟨ad, "clone", "()Ljava/lang/Object;"⟩ ⟨"java/lang/Object", "clone", "()Ljava/lang/Object;"⟩).before a0 Z = true) (w6 : (Cond.castable ad "java/lang/Cloneable").before a0 Z = true)
    (eT : T.heap = h) (A : IA Z h a ty n f) (E : Exa Z h a ad) {g : JFrame} (hg : g.method = m) (hsize : g.locals.size = c.maxLocals) {rest : List Value} (hs : g.stack = .ref a :: rest) (hd : decode c.code g.pc = .ok (.invokevirtual index, 3))
    (hf : 1 ≤ R.frames) {W cap : Nat} (hW : 2 * g.monitorRoom + (rest.map fun v => v.category).sum ≤ W) (hl : W + 14 ≤ R.locals) (hcap : n ≤ cap) (hc : cells + 1 ≤ R.cells) (hsl : slots + cap ≤ R.slots) :
    ∃ T' h', Stand p l e R s m args below meth c T' locs (cells + 1) (slots + cap) ∧ T'.heap = h' ∧ Ext h h' ∧ IA Z h' h.size ty n f ∧ Exa Z h' h.size ad ∧
      ∀ target, Steps p.tables e below (T'.setTop { g with pc := g.pc + 3, stack := .ref h.size :: rest }) target → Steps p.tables e below (T.setTop g) target := by
  obtain ⟨cl, A, S, M, H⟩ := A
  have FC : FitC Z cl := fitC_of A fun i hi v hv => by
    rw [S] at hi
    rw [(H i hi).1] at hv
    cases hv
    exact (H i hi).2
  obtain ⟨T', h', X', e', ex, A', E', st⟩ := cloneA X hx hZ hown w1 w2 w3 w4 w5 w6 eT A E FC hg hsize hs hd hf hW hl (by rw [S]; exact hcap) hc hsl
  exact ⟨T', h', X', e', ex, ⟨cloneOf cl, A', S, M, H⟩, E', st⟩
end Clone
theorem own_sub {i n : Nat} (h : n ≤ i) (hi : i < 2 ^ 31) : Int32.ofNat i - Int32.ofNat n = Int32.ofNat (i - n) :=
  own_eqNat (by rw [Jvm.Kit.i32_sub (by rw [own_nat (by omega), own_nat (by omega)]; omega) (by rw [own_nat (by omega), own_nat (by omega)]; omega), own_nat (by omega), own_nat (by omega)]; omega)
end Jvm.RoadKit
namespace Jvm.RoadKit
open Sem ClassFile Op Lib Jvm.Stand Jvm.Free Jvm.LawKit
theorem own_stak {Z : State} {h h' : Heap} {C n d D : String} {v : Value} {a : Addr} (F : Sta Z h C n d v) (K : Keep h h' [a]) (E : Exa Z h a D) : Sta Z h' C n d v := by
  obtain ⟨cf, i, k, f, st, cell, h1, h2, h3, h4, h5, h6, h7⟩ := F
  obtain ⟨cell', k', e1, -, -, e4, -⟩ := E
  have ne : st ≠ a := fun q => by
    subst q
    cases h5.symm.trans e1
    rw [e4] at h6
    cases h6
  exact ⟨cf, i, k, f, st, cell, h1, h2, h3, h4, K.2.1 _ _ h5 (ninS ne nin0), h6, h7⟩
end Jvm.RoadKit
namespace Jvm.RoadKit
theorem own_us {f : Nat → Int32} {i : Nat} {v : Int32} : own_upd f i v i = v := if_pos rfl
theorem own_un {f : Nat → Int32} {i k : Nat} {v : Int32} (h : k ≠ i) : own_upd f i v k = f k := if_neg h
end Jvm.RoadKit
namespace Jvm.Pilot.@@N@@
open Jvm Jvm.ClassFile Sem Op Lib Jvm.Free Jvm.Stand Jvm.LawKit Jvm.RoadKit Bundle Jvm.Pilot.@@N@@.Jvm.D
theorem pd_0 : parseMethodDescriptor "(IJ)I" = some ⟨[.int, .long], some .int⟩ := by decide +kernel
theorem pd_1 : parseMethodDescriptor "([B)[I" = some ⟨[(.array .byte)], some (.array .int)⟩ := by decide +kernel
theorem pd_2 : parseMethodDescriptor "([IIJ)Z" = some ⟨[(.array .int), .int, .long], some .boolean⟩ := by decide +kernel
def own_ub (x : Int32) : Nat := (x &&& (255 : Int32)).toNatClampNeg
theorem own_ub1 (x : Int32) : (x &&& (255 : Int32)) = Int32.ofNat (own_ub x) ∧ own_ub x < 256 := by
  obtain ⟨n, hn, en⟩ := own_andN x 255 8 (by decide) (by decide)
  unfold own_ub
  rw [en, own_cl (by omega)]
  exact ⟨rfl, hn⟩
def own_B (v : Nat → Int32) : Nat → Nat
  | 0 => 0
  | i + 1 => own_B v i * 256 + own_ub (v i)
def own_val (v : Nat → Int32) (i k : Nat) : Int32 := Int32.ofNat (own_B v i / 2 ^ (8 * i - 5 * k - 5) % 32)
def own_F (v : Nat → Int32) (i : Nat) : Nat → Int32 := fun k => if k < 8 * i / 5 then own_val v i k else 0
def own_R (v : Nat → Int32) (n : Nat) : Nat → Int32 := fun k => if k < 8 * n / 5 then own_val v n k else Int32.ofNat (own_B v n % 2 ^ (8 * n % 5) * 2 ^ (5 - 8 * n % 5) % 32)
set_option maxRecDepth 65536 in
theorem own_accT : ∀ (a : Fin 16) (u : Fin 256), ((Int32.ofNat a.val <<< ((8 : Int32) &&& 31)) ||| Int32.ofNat u.val) = Int32.ofNat (a.val * 256 + u.val) := by decide +kernel
theorem own_acc {a : Nat} (x : Int32) (h : a < 16) : ((Int32.ofNat a <<< ((8 : Int32) &&& 31)) ||| (x &&& (255 : Int32))) = Int32.ofNat (a * 256 + own_ub x) := by
  rw [(own_ub1 x).1]
  exact own_accT ⟨a, h⟩ ⟨own_ub x, (own_ub1 x).2⟩
theorem own_A {v : Nat → Int32} {i : Nat} (b : Nat) : own_B v i % 2 ^ b * 256 + own_ub (v i) = own_B v (i + 1) % 2 ^ (b + 8) := by
  have hu := (own_ub1 (v i)).2
  have e0 : own_B v (i + 1) = own_B v i * 256 + own_ub (v i) := rfl
  rw [e0, Nat.pow_add, Nat.mul_comm (2 ^ b), Nat.mod_mul]
  generalize own_B v i = B at *
  generalize own_ub (v i) = u at *
  have e1 : (B * 256 + u) % 2 ^ 8 = u := by omega
  have e2 : (B * 256 + u) / 2 ^ 8 = B := by omega
  rw [e1, e2]
  omega
theorem own_sh {A s : Nat} {z : Int32} (hA : A < 4096) (hs : (z &&& 31).toUInt32.toNat = s) (h32 : s < 32) : (((Int32.ofNat A).toUInt32 >>> (z &&& 31).toUInt32).toInt32 &&& (31 : Int32)) = Int32.ofNat (A / 2 ^ s % 32) := by
  apply own_eqNat
  rw [Jvm.Kit.i32_mask _ 31 (k := 5) (by decide) (by decide), Jvm.Kit.i32_iushr (Jvm.Kit.i32_nonneg.mpr (by rw [own_nat (by omega)]; omega)) hs h32, own_nat (by omega)]
  have e : (A : Int) / 2 ^ s = ((A / 2 ^ s : Nat) : Int) := by rw [Int.natCast_ediv, Int.natCast_pow]; rfl
  rw [e]
  omega
theorem own_mk {A k : Nat} {m : Int32} (hA : A < 4096) (hk : k < 32) (hm : m.toBitVec.toNat = 2 ^ k - 1) : (Int32.ofNat A &&& m) = Int32.ofNat (A % 2 ^ k) := by
  apply own_eqNat
  rw [Jvm.Kit.i32_mask _ m hk hm, own_nat (by omega), Int.natCast_emod, Int.natCast_pow]
  rfl
theorem own_mm {v : Nat → Int32} {i b k : Nat} (h : k ≤ b + 8) : own_B v (i + 1) % 2 ^ (b + 8) % 2 ^ k = own_B v (i + 1) % 2 ^ k := Nat.mod_mod_of_dvd _ (Nat.pow_dvd_pow 2 h)
theorem own_dm {B s : Nat} : B % 2 ^ (s + 5) / 2 ^ s % 32 = B / 2 ^ s % 32 := by
  rw [Nat.pow_add, Nat.mod_mul_right_div_self]
  exact Nat.mod_mod _ _
theorem own_stab {v : Nat → Int32} {i k : Nat} (h : 5 * k + 5 ≤ 8 * i) : own_val v (i + 1) k = own_val v i k := by
  unfold own_val
  have hu := (own_ub1 (v i)).2
  have e : 8 * (i + 1) - 5 * k - 5 = 8 + (8 * i - 5 * k - 5) := by omega
  rw [e, Nat.pow_add, ← Nat.div_div_eq_div_mul]
  have e2 : own_B v (i + 1) / 2 ^ 8 = own_B v i := by
    show (own_B v i * 256 + own_ub (v i)) / 256 = own_B v i
    omega
  rw [e2]
/-- one five-bit value more -/
theorem own_F1 {v : Nat → Int32} {i c b : Nat} (hc : c = 8 * i / 5) (hb : b = 8 * i % 5) (hn : 8 * (i + 1) / 5 = c + 1) (k : Nat) : own_upd (own_F v i) c (Int32.ofNat (own_B v (i + 1) % 2 ^ (b + 8) / 2 ^ (b + 3) % 32)) k = own_F v (i + 1) k := by
  by_cases q : k = c
  · subst q
    rw [own_us]
    unfold own_F
    rw [if_pos (by omega)]
    unfold own_val
    rw [show b + 8 = (b + 3) + 5 from rfl, own_dm, show 8 * (i + 1) - 5 * k - 5 = b + 3 by omega]
  · rw [own_un q]
    unfold own_F
    by_cases h : k < 8 * i / 5
    · rw [if_pos h, if_pos (by omega), own_stab (by omega)]
    · rw [if_neg h, if_neg (by omega)]
/-- two five-bit values more -/
theorem own_F2 {v : Nat → Int32} {i c b : Nat} (hc : c = 8 * i / 5) (hb : b = 8 * i % 5) (h2 : 2 ≤ b) (hn : 8 * (i + 1) / 5 = c + 2) (k : Nat) : own_upd (own_upd (own_F v i) c (Int32.ofNat (own_B v (i + 1) % 2 ^ (b + 8) / 2 ^ (b + 3) % 32))) (c + 1) (Int32.ofNat (own_B v (i + 1) % 2 ^ (b + 8) / 2 ^ (b - 2) % 32)) k = own_F v (i + 1) k := by
  by_cases q : k = c + 1
  · subst q
    rw [own_us]
    unfold own_F
    rw [if_pos (by omega)]
    unfold own_val
    have e : own_B v (i + 1) % 2 ^ (b + 8) / 2 ^ (b - 2) % 32 = own_B v (i + 1) / 2 ^ (b - 2) % 32 := by
      have e1 : own_B v (i + 1) % 2 ^ (b + 8) / 2 ^ (b - 2) % 32 = own_B v (i + 1) % 2 ^ (b + 8) % 2 ^ ((b - 2) + 5) / 2 ^ (b - 2) % 32 := own_dm.symm
      rw [e1, Nat.mod_mod_of_dvd _ (Nat.pow_dvd_pow 2 (by omega)), own_dm]
    rw [e, show 8 * (i + 1) - 5 * (c + 1) - 5 = b - 2 by omega]
  · rw [own_un q]
    by_cases q2 : k = c
    · subst q2
      rw [own_us]
      unfold own_F
      rw [if_pos (by omega)]
      unfold own_val
      rw [show b + 8 = (b + 3) + 5 from rfl, own_dm, show 8 * (i + 1) - 5 * k - 5 = b + 3 by omega]
    · rw [own_un q2]
      unfold own_F
      by_cases h : k < 8 * i / 5
      · rw [if_pos h, if_pos (by omega), own_stab (by omega)]
      · rw [if_neg h, if_neg (by omega)]
theorem own_nlen {n : Nat} (h : n ≤ 8) : ((Int32.ofNat n * (8 : Int32)) + (4 : Int32)) / (5 : Int32) = Int32.ofNat ((8 * n + 4) / 5) := by
  have T : ∀ n : Fin 9, ((Int32.ofNat n.val * (8 : Int32)) + (4 : Int32)) / (5 : Int32) = Int32.ofNat ((8 * n.val + 4) / 5) := by decide +kernel
  exact T ⟨n, by omega⟩
theorem own_tail1 : ∀ a : Fin 16, ((Int32.ofNat a.val <<< (((5 : Int32) - (1 : Int32)) &&& 31)) &&& (31 : Int32)) = Int32.ofNat (a.val * 2 ^ (5 - 1) % 32) := by decide +kernel
theorem own_tail2 : ∀ a : Fin 16, ((Int32.ofNat a.val <<< (((5 : Int32) - (2 : Int32)) &&& 31)) &&& (31 : Int32)) = Int32.ofNat (a.val * 2 ^ (5 - 2) % 32) := by decide +kernel
theorem own_tail3 : ∀ a : Fin 16, ((Int32.ofNat a.val <<< (((5 : Int32) - (3 : Int32)) &&& 31)) &&& (31 : Int32)) = Int32.ofNat (a.val * 2 ^ (5 - 3) % 32) := by decide +kernel
theorem own_tail4 : ∀ a : Fin 16, ((Int32.ofNat a.val <<< (((5 : Int32) - (4 : Int32)) &&& 31)) &&& (31 : Int32)) = Int32.ofNat (a.val * 2 ^ (5 - 4) % 32) := by decide +kernel
theorem own_tR {v : Nat → Int32} {n c b : Nat} (hc : c = 8 * n / 5) (hb : b = 8 * n % 5) (k : Nat) (hk : k < (8 * n + 4) / 5) : own_upd (own_F v n) c (Int32.ofNat (own_B v n % 2 ^ b * 2 ^ (5 - b) % 32)) k = own_R v n k := by
  by_cases q : k = c
  · subst q
    rw [own_us]
    unfold own_R
    rw [if_neg (by omega), hb]
  · rw [own_un q]
    unfold own_F own_R
    rw [if_pos (by omega), if_pos (by omega)]
theorem own_tR0 {v : Nat → Int32} {n : Nat} (hb : 0 = 8 * n % 5) (k : Nat) (hk : k < (8 * n + 4) / 5) : own_F v n k = own_R v n k := by
  unfold own_F own_R
  rw [if_pos (by omega), if_pos (by omega)]
def Q_rm1 (Z : State) (n : Nat) (v : Nat → Int32) (h0 : Heap) (n0 : Nat) (x : Option Value) (h : Heap) (L : List Loc) : Prop := ∃ mw : Addr, h0.size ≤ mw ∧ x = some (.ref mw) ∧ Fr n0 L ∧ Keep h0 h [] ∧ IA Z h mw .int ((8 * n + 4) / 5) (own_R v n)
theorem d1_0 : decode prog_7_method_5_code 0 = .ok (.aload_n 0, 1) := by decide +kernel
theorem d1_1 : decode prog_7_method_5_code 1 = .ok (.arraylength, 1) := by decide +kernel
theorem d1_2 : decode prog_7_method_5_code 2 = .ok (.bipush 8, 2) := by decide +kernel
theorem d1_4 : decode prog_7_method_5_code 4 = .ok (.imul, 1) := by decide +kernel
theorem d1_5 : decode prog_7_method_5_code 5 = .ok (.iconst 4, 1) := by decide +kernel
theorem d1_6 : decode prog_7_method_5_code 6 = .ok (.iadd, 1) := by decide +kernel
theorem d1_7 : decode prog_7_method_5_code 7 = .ok (.iconst 5, 1) := by decide +kernel
theorem d1_8 : decode prog_7_method_5_code 8 = .ok (.idiv, 1) := by decide +kernel
theorem d1_9 : decode prog_7_method_5_code 9 = .ok (.newarray .int, 2) := by decide +kernel
theorem d1_11 : decode prog_7_method_5_code 11 = .ok (.astore_n 1, 1) := by decide +kernel
theorem d1_12 : decode prog_7_method_5_code 12 = .ok (.iconst 0, 1) := by decide +kernel
theorem d1_13 : decode prog_7_method_5_code 13 = .ok (.istore_n 2, 1) := by decide +kernel
theorem d1_14 : decode prog_7_method_5_code 14 = .ok (.iconst 0, 1) := by decide +kernel
theorem d1_15 : decode prog_7_method_5_code 15 = .ok (.istore_n 3, 1) := by decide +kernel
theorem d1_16 : decode prog_7_method_5_code 16 = .ok (.iconst 0, 1) := by decide +kernel
theorem d1_17 : decode prog_7_method_5_code 17 = .ok (.istore 4, 2) := by decide +kernel
theorem d1_19 : decode prog_7_method_5_code 19 = .ok (.aload_n 0, 1) := by decide +kernel
theorem d1_20 : decode prog_7_method_5_code 20 = .ok (.astore 5, 2) := by decide +kernel
theorem d1_22 : decode prog_7_method_5_code 22 = .ok (.aload 5, 2) := by decide +kernel
theorem d1_24 : decode prog_7_method_5_code 24 = .ok (.arraylength, 1) := by decide +kernel
theorem d1_25 : decode prog_7_method_5_code 25 = .ok (.istore 6, 2) := by decide +kernel
theorem d1_27 : decode prog_7_method_5_code 27 = .ok (.iconst 0, 1) := by decide +kernel
theorem d1_28 : decode prog_7_method_5_code 28 = .ok (.istore 7, 2) := by decide +kernel
theorem d1_30 : decode prog_7_method_5_code 30 = .ok (.iload 7, 2) := by decide +kernel
theorem d1_32 : decode prog_7_method_5_code 32 = .ok (.iload 6, 2) := by decide +kernel
theorem d1_34 : decode prog_7_method_5_code 34 = .ok (.if_icmp .ge 63, 3) := by decide +kernel
theorem d1_37 : decode prog_7_method_5_code 37 = .ok (.aload 5, 2) := by decide +kernel
theorem d1_39 : decode prog_7_method_5_code 39 = .ok (.iload 7, 2) := by decide +kernel
theorem d1_41 : decode prog_7_method_5_code 41 = .ok (.baload, 1) := by decide +kernel
theorem d1_42 : decode prog_7_method_5_code 42 = .ok (.istore 8, 2) := by decide +kernel
theorem d1_44 : decode prog_7_method_5_code 44 = .ok (.iload_n 2, 1) := by decide +kernel
theorem d1_45 : decode prog_7_method_5_code 45 = .ok (.bipush 8, 2) := by decide +kernel
theorem d1_47 : decode prog_7_method_5_code 47 = .ok (.ishl, 1) := by decide +kernel
theorem d1_48 : decode prog_7_method_5_code 48 = .ok (.iload 8, 2) := by decide +kernel
theorem d1_50 : decode prog_7_method_5_code 50 = .ok (.sipush 255, 3) := by decide +kernel
theorem d1_53 : decode prog_7_method_5_code 53 = .ok (.iand, 1) := by decide +kernel
theorem d1_54 : decode prog_7_method_5_code 54 = .ok (.ior, 1) := by decide +kernel
theorem d1_55 : decode prog_7_method_5_code 55 = .ok (.istore_n 2, 1) := by decide +kernel
theorem d1_56 : decode prog_7_method_5_code 56 = .ok (.iinc 3 8, 3) := by decide +kernel
theorem d1_59 : decode prog_7_method_5_code 59 = .ok (.iload_n 3, 1) := by decide +kernel
theorem d1_60 : decode prog_7_method_5_code 60 = .ok (.iconst 5, 1) := by decide +kernel
theorem d1_61 : decode prog_7_method_5_code 61 = .ok (.if_icmp .lt 22, 3) := by decide +kernel
theorem d1_64 : decode prog_7_method_5_code 64 = .ok (.iinc 3 (-5), 3) := by decide +kernel
theorem d1_67 : decode prog_7_method_5_code 67 = .ok (.aload_n 1, 1) := by decide +kernel
theorem d1_68 : decode prog_7_method_5_code 68 = .ok (.iload 4, 2) := by decide +kernel
theorem d1_70 : decode prog_7_method_5_code 70 = .ok (.iinc 4 1, 3) := by decide +kernel
theorem d1_73 : decode prog_7_method_5_code 73 = .ok (.iload_n 2, 1) := by decide +kernel
theorem d1_74 : decode prog_7_method_5_code 74 = .ok (.iload_n 3, 1) := by decide +kernel
theorem d1_75 : decode prog_7_method_5_code 75 = .ok (.iushr, 1) := by decide +kernel
theorem d1_76 : decode prog_7_method_5_code 76 = .ok (.bipush 31, 2) := by decide +kernel
theorem d1_78 : decode prog_7_method_5_code 78 = .ok (.iand, 1) := by decide +kernel
theorem d1_79 : decode prog_7_method_5_code 79 = .ok (.iastore, 1) := by decide +kernel
theorem d1_80 : decode prog_7_method_5_code 80 = .ok (.goto (-21), 3) := by decide +kernel
theorem d1_83 : decode prog_7_method_5_code 83 = .ok (.iload_n 2, 1) := by decide +kernel
theorem d1_84 : decode prog_7_method_5_code 84 = .ok (.iconst 1, 1) := by decide +kernel
theorem d1_85 : decode prog_7_method_5_code 85 = .ok (.iload_n 3, 1) := by decide +kernel
theorem d1_86 : decode prog_7_method_5_code 86 = .ok (.ishl, 1) := by decide +kernel
theorem d1_87 : decode prog_7_method_5_code 87 = .ok (.iconst 1, 1) := by decide +kernel
theorem d1_88 : decode prog_7_method_5_code 88 = .ok (.isub, 1) := by decide +kernel
theorem d1_89 : decode prog_7_method_5_code 89 = .ok (.iand, 1) := by decide +kernel
theorem d1_90 : decode prog_7_method_5_code 90 = .ok (.istore_n 2, 1) := by decide +kernel
theorem d1_91 : decode prog_7_method_5_code 91 = .ok (.iinc 7 1, 3) := by decide +kernel
theorem d1_94 : decode prog_7_method_5_code 94 = .ok (.goto (-64), 3) := by decide +kernel
theorem d1_97 : decode prog_7_method_5_code 97 = .ok (.iload_n 3, 1) := by decide +kernel
theorem d1_98 : decode prog_7_method_5_code 98 = .ok (.ifCond .le 15, 3) := by decide +kernel
theorem d1_101 : decode prog_7_method_5_code 101 = .ok (.aload_n 1, 1) := by decide +kernel
theorem d1_102 : decode prog_7_method_5_code 102 = .ok (.iload 4, 2) := by decide +kernel
theorem d1_104 : decode prog_7_method_5_code 104 = .ok (.iload_n 2, 1) := by decide +kernel
theorem d1_105 : decode prog_7_method_5_code 105 = .ok (.iconst 5, 1) := by decide +kernel
theorem d1_106 : decode prog_7_method_5_code 106 = .ok (.iload_n 3, 1) := by decide +kernel
theorem d1_107 : decode prog_7_method_5_code 107 = .ok (.isub, 1) := by decide +kernel
theorem d1_108 : decode prog_7_method_5_code 108 = .ok (.ishl, 1) := by decide +kernel
theorem d1_109 : decode prog_7_method_5_code 109 = .ok (.bipush 31, 2) := by decide +kernel
theorem d1_111 : decode prog_7_method_5_code 111 = .ok (.iand, 1) := by decide +kernel
theorem d1_112 : decode prog_7_method_5_code 112 = .ok (.iastore, 1) := by decide +kernel
theorem d1_113 : decode prog_7_method_5_code 113 = .ok (.aload_n 1, 1) := by decide +kernel
theorem d1_114 : decode prog_7_method_5_code 114 = .ok (.areturn, 1) := by decide +kernel
theorem pn_1 : plainName "com/example/outpoint/outpoint/Bech32" = true := by first | (simp [plainName, overriddenIn]; done) | decide +kernel
theorem ef_rm1 (m : MethodId) (x0 : Addr) : entryFrame m #[(.ref x0)] 9 = mkF m 0 #[.val (.ref x0), .unset, .unset, .unset, .unset, .unset, .unset, .unset, .unset] [] := by first | (simp [entryFrame, mkF, argsToLocals, Value.category]; done) | rfl
set_option maxRecDepth 65536 in
set_option maxHeartbeats 40000000 in
theorem rm1 (l : Launch) (Z : State) (a0 : Array Value) (hw : ∀ d ∈ tables_1, d.before a0 Z = true) (ws : List Jvm.Cond) (r0 : Addr) (n_r0 : Nat) (v_r0 : Nat → Int32) (h0 : Heap) (n0 : Nat) (Z0 : n0 ≤ h0.size) (A_r0 : IA Z h0 r0 .byte n_r0 v_r0) (hn8 : n_r0 ≤ 8) :
    MetFree l (⟨"com/example/outpoint/outpoint/Bech32", "toFiveBit", "([B)[I"⟩ : MethodName) (head1 (Jvm.Cond.code (⟨"com/example/outpoint/outpoint/Bech32", "toFiveBit", "([B)[I"⟩ : MethodName) prog_7_method_5_code 9 (some (.array .int)) :: ws) ({ frames := 0, cells := 1, slots := 13, locals := 0 } : Room)) (fun a U => a = #[(.ref r0)] ∧ Z.Warmed39 U.vm ∧ U.heap = h0) (fun _ _ _ _ _ => True) (fun _ U o U' => ∃ v L, o = .returned v ∧ Q_rm1 Z n_r0 v_r0 h0 n0 v U'.heap L ∧ FrameEnd U o U' L ({ frames := 0, cells := 1, slots := 13, locals := 0 } : Room).cells ({ frames := 0, cells := 1, slots := 13, locals := 0 } : Room).slots) := by
  refine MetFree.of_bodySF (plainFor_of_name pn_1) hisR ?_
  intro p e s m args below meth c s₁ Bd hml0 hP hK
  obtain ⟨rfl, hZ, hh⟩ := hP
  have hx := Bd.exec
  have hby := Bd.bytes
  have hml : c.maxLocals = 9 := hml0
  have hown : s.vm.findClass "com/example/outpoint/outpoint/Bech32" = some m.cls := findClass_of_methodNamed Bd.named
  have hnm := (name_of_methodNamed Bd.named Bd.method).1
  have hlk : meth.locks = false := BodyLoose.notSynchronized Bd
  have X0 : Stand p l e ({ frames := 0, cells := 1, slots := 13, locals := 0 } : Room) s m #[(.ref r0)] below meth c s₁ [] 0 0 := Stand.of_body Bd
  have e0 : s₁.heap = h0 := by rw [← hh, Bd.state]; rfl
  have N0 := Fr.nil n0
  have K0 : Keep h0 h0 [] := Keep.refl _ _
  show Goes p e below s (Q_rm1 Z n_r0 v_r0 h0 n0) ({ frames := 0, cells := 1, slots := 13, locals := 0 } : Room).cells ({ frames := 0, cells := 1, slots := 13, locals := 0 } : Room).slots (s₁.setTop (entryFrame m #[(.ref r0)] 9))
  rw [ef_rm1]
  have hn31 := A_r0.bound
  have LP : ∀ (k i b c5 : Nat) (s8 : Slot) (bw : Addr) {TJ : State} {lj : List Loc} {hJ : Heap} (XJ : Stand p l e ({ frames := 0, cells := 1, slots := 13, locals := 0 } : Room) s m #[(.ref r0)] below meth c TJ lj (0 + 1) (0 + 13)) (eJ : TJ.heap = hJ) (NJ : Fr n0 lj) (ZJ : n0 ≤ hJ.size) (KJ : Keep h0 hJ []) (AW : IA Z hJ bw .int ((8 * n_r0 + 4) / 5) (own_F v_r0 i)) (gw : n0 ≤ bw) (sw : h0.size ≤ bw) (n0w : r0 ≠ bw) (hs8 : One s8) (hk : i + k = n_r0) (hbv : b = 8 * i % 5) (hc : c5 = 8 * i / 5), Goes p e below s (Q_rm1 Z n_r0 v_r0 h0 n0) ({ frames := 0, cells := 1, slots := 13, locals := 0 } : Room).cells ({ frames := 0, cells := 1, slots := 13, locals := 0 } : Room).slots (TJ.setTop (mkF m 30 #[.val (.ref r0), .val (.ref bw), .val (.int (Int32.ofNat (own_B v_r0 i % 2 ^ b))), .val (.int (Int32.ofNat b)), .val (.int (Int32.ofNat c5)), .val (.ref r0), .val (.int (Int32.ofNat n_r0)), .val (.int (Int32.ofNat i)), s8] [])) := by
    intro k
    induction k with
    | zero =>
      intro i b c5 s8 bw TJ lj hJ XJ eJ NJ ZJ KJ AW gw sw n0w hs8 hk hbv hc
      have A0 := A_r0.keep KJ nin0
      have hb5 : b = 0 ∨ b = 1 ∨ b = 2 ∨ b = 3 ∨ b = 4 := by omega
      have hB : ∀ q, q ≤ 4 → own_B v_r0 i % 2 ^ q < 16 := fun q hq => Nat.lt_of_lt_of_le (Nat.mod_lt _ (Nat.pow_pos (by decide))) (Nat.pow_le_pow_right (by decide) hq)
      have hi : i = n_r0 := by omega
      rcases hb5 with rfl | rfl | rfl | rfl | rfl
      · skip
        show Goes p e below s _ _ _ (TJ.setTop (mkF m 30 #[.val (.ref r0), .val (.ref bw), .val (.int (Int32.ofNat (own_B v_r0 i % 2 ^ 0))), .val (.int (0 : Int32)), .val (.int (Int32.ofNat c5)), .val (.ref r0), .val (.int (Int32.ofNat n_r0)), .val (.int (Int32.ofNat i)), s8] []))
        refine Goes.go (fun _ kst => XS.iload XJ.here hx rfl (hb hby d1_30) rfl  kst) ?_
        show Goes p e below s _ _ _ (TJ.setTop (mkF m 32 #[.val (.ref r0), .val (.ref bw), .val (.int (Int32.ofNat (own_B v_r0 i % 2 ^ 0))), .val (.int (0 : Int32)), .val (.int (Int32.ofNat c5)), .val (.ref r0), .val (.int (Int32.ofNat n_r0)), .val (.int (Int32.ofNat i)), s8] [(.int (Int32.ofNat i))]))
        refine Goes.go (fun _ kst => XS.iload XJ.here hx rfl (hb hby d1_32) rfl  kst) ?_
        show Goes p e below s _ _ _ (TJ.setTop (mkF m 34 #[.val (.ref r0), .val (.ref bw), .val (.int (Int32.ofNat (own_B v_r0 i % 2 ^ 0))), .val (.int (0 : Int32)), .val (.int (Int32.ofNat c5)), .val (.ref r0), .val (.int (Int32.ofNat n_r0)), .val (.int (Int32.ofNat i)), s8] [(.int (Int32.ofNat n_r0)), (.int (Int32.ofNat i))]))
        have hc34_1 : ¬ ((Int32.ofNat i) < (Int32.ofNat n_r0)) := fun q => by have := (own_lt (by omega) (by omega)).mp q; omega
        refine Goes.go (fun _ kst => XS.icmpYes XJ.here hx rfl (pc0 := 34) (pc' := 97) rfl (hb hby d1_34) rfl (flt hc34_1).2.1 (by decide) (by decide) kst) ?_
        show Goes p e below s _ _ _ (TJ.setTop (mkF m 97 #[.val (.ref r0), .val (.ref bw), .val (.int (Int32.ofNat (own_B v_r0 i % 2 ^ 0))), .val (.int (0 : Int32)), .val (.int (Int32.ofNat c5)), .val (.ref r0), .val (.int (Int32.ofNat n_r0)), .val (.int (Int32.ofNat i)), s8] []))
        refine Goes.go (fun _ kst => XS.iloadN XJ.here hx rfl (hb hby d1_97) rfl  kst) ?_
        show Goes p e below s _ _ _ (TJ.setTop (mkF m 98 #[.val (.ref r0), .val (.ref bw), .val (.int (Int32.ofNat (own_B v_r0 i % 2 ^ 0))), .val (.int (0 : Int32)), .val (.int (Int32.ofNat c5)), .val (.ref r0), .val (.int (Int32.ofNat n_r0)), .val (.int (Int32.ofNat i)), s8] [(.int (0 : Int32))]))
        have hc98_2 : ¬ ((0 : Int32) < (0 : Int32)) := (by decide)
        refine Goes.go (fun _ kst => XS.ifYes XJ.here hx rfl (pc0 := 98) (pc' := 113) rfl (hb hby d1_98) rfl ((if0 _ _).trans (flt hc98_2).2.2.2) (by decide) (by decide) kst) ?_
        show Goes p e below s _ _ _ (TJ.setTop (mkF m 113 #[.val (.ref r0), .val (.ref bw), .val (.int (Int32.ofNat (own_B v_r0 i % 2 ^ 0))), .val (.int (0 : Int32)), .val (.int (Int32.ofNat c5)), .val (.ref r0), .val (.int (Int32.ofNat n_r0)), .val (.int (Int32.ofNat i)), s8] []))
        refine Goes.go (fun _ kst => XS.aloadN XJ.here hx rfl (hb hby d1_113) rfl rfl  kst) ?_
        show Goes p e below s _ _ _ (TJ.setTop (mkF m 114 #[.val (.ref r0), .val (.ref bw), .val (.int (Int32.ofNat (own_B v_r0 i % 2 ^ 0))), .val (.int (0 : Int32)), .val (.int (Int32.ofNat c5)), .val (.ref r0), .val (.int (Int32.ofNat n_r0)), .val (.int (Int32.ofNat i)), s8] [(.ref bw)]))
        refine Goes.retA XJ hx hlk rfl Bd.returns rfl (hb hby d1_114) ?_ (by decide) (by decide)
        exact (show Q_rm1 Z n_r0 v_r0 h0 n0 _ TJ.heap _ by rw [eJ]; exact ⟨bw, sw, rfl, NJ, KJ, by subst hi; exact (AW).as (fun k hk' => own_tR0 hbv k hk')⟩)
      · skip
        show Goes p e below s _ _ _ (TJ.setTop (mkF m 30 #[.val (.ref r0), .val (.ref bw), .val (.int (Int32.ofNat (own_B v_r0 i % 2 ^ 1))), .val (.int (1 : Int32)), .val (.int (Int32.ofNat c5)), .val (.ref r0), .val (.int (Int32.ofNat n_r0)), .val (.int (Int32.ofNat i)), s8] []))
        refine Goes.go (fun _ kst => XS.iload XJ.here hx rfl (hb hby d1_30) rfl  kst) ?_
        show Goes p e below s _ _ _ (TJ.setTop (mkF m 32 #[.val (.ref r0), .val (.ref bw), .val (.int (Int32.ofNat (own_B v_r0 i % 2 ^ 1))), .val (.int (1 : Int32)), .val (.int (Int32.ofNat c5)), .val (.ref r0), .val (.int (Int32.ofNat n_r0)), .val (.int (Int32.ofNat i)), s8] [(.int (Int32.ofNat i))]))
        refine Goes.go (fun _ kst => XS.iload XJ.here hx rfl (hb hby d1_32) rfl  kst) ?_
        show Goes p e below s _ _ _ (TJ.setTop (mkF m 34 #[.val (.ref r0), .val (.ref bw), .val (.int (Int32.ofNat (own_B v_r0 i % 2 ^ 1))), .val (.int (1 : Int32)), .val (.int (Int32.ofNat c5)), .val (.ref r0), .val (.int (Int32.ofNat n_r0)), .val (.int (Int32.ofNat i)), s8] [(.int (Int32.ofNat n_r0)), (.int (Int32.ofNat i))]))
        have hc34_3 : ¬ ((Int32.ofNat i) < (Int32.ofNat n_r0)) := fun q => by have := (own_lt (by omega) (by omega)).mp q; omega
        refine Goes.go (fun _ kst => XS.icmpYes XJ.here hx rfl (pc0 := 34) (pc' := 97) rfl (hb hby d1_34) rfl (flt hc34_3).2.1 (by decide) (by decide) kst) ?_
        show Goes p e below s _ _ _ (TJ.setTop (mkF m 97 #[.val (.ref r0), .val (.ref bw), .val (.int (Int32.ofNat (own_B v_r0 i % 2 ^ 1))), .val (.int (1 : Int32)), .val (.int (Int32.ofNat c5)), .val (.ref r0), .val (.int (Int32.ofNat n_r0)), .val (.int (Int32.ofNat i)), s8] []))
        refine Goes.go (fun _ kst => XS.iloadN XJ.here hx rfl (hb hby d1_97) rfl  kst) ?_
        show Goes p e below s _ _ _ (TJ.setTop (mkF m 98 #[.val (.ref r0), .val (.ref bw), .val (.int (Int32.ofNat (own_B v_r0 i % 2 ^ 1))), .val (.int (1 : Int32)), .val (.int (Int32.ofNat c5)), .val (.ref r0), .val (.int (Int32.ofNat n_r0)), .val (.int (Int32.ofNat i)), s8] [(.int (1 : Int32))]))
        have hc98_4 : (0 : Int32) < (1 : Int32) := (by decide)
        refine Goes.go (fun _ kst => XS.ifNo XJ.here hx rfl (hb hby d1_98) rfl ((if0 _ _).trans (tlt hc98_4).2.2.2) kst) ?_
        show Goes p e below s _ _ _ (TJ.setTop (mkF m 101 #[.val (.ref r0), .val (.ref bw), .val (.int (Int32.ofNat (own_B v_r0 i % 2 ^ 1))), .val (.int (1 : Int32)), .val (.int (Int32.ofNat c5)), .val (.ref r0), .val (.int (Int32.ofNat n_r0)), .val (.int (Int32.ofNat i)), s8] []))
        refine Goes.go (fun _ kst => XS.aloadN XJ.here hx rfl (hb hby d1_101) rfl rfl  kst) ?_
        show Goes p e below s _ _ _ (TJ.setTop (mkF m 102 #[.val (.ref r0), .val (.ref bw), .val (.int (Int32.ofNat (own_B v_r0 i % 2 ^ 1))), .val (.int (1 : Int32)), .val (.int (Int32.ofNat c5)), .val (.ref r0), .val (.int (Int32.ofNat n_r0)), .val (.int (Int32.ofNat i)), s8] [(.ref bw)]))
        refine Goes.go (fun _ kst => XS.iload XJ.here hx rfl (hb hby d1_102) rfl  kst) ?_
        show Goes p e below s _ _ _ (TJ.setTop (mkF m 104 #[.val (.ref r0), .val (.ref bw), .val (.int (Int32.ofNat (own_B v_r0 i % 2 ^ 1))), .val (.int (1 : Int32)), .val (.int (Int32.ofNat c5)), .val (.ref r0), .val (.int (Int32.ofNat n_r0)), .val (.int (Int32.ofNat i)), s8] [(.int (Int32.ofNat c5)), (.ref bw)]))
        refine Goes.go (fun _ kst => XS.iloadN XJ.here hx rfl (hb hby d1_104) rfl  kst) ?_
        show Goes p e below s _ _ _ (TJ.setTop (mkF m 105 #[.val (.ref r0), .val (.ref bw), .val (.int (Int32.ofNat (own_B v_r0 i % 2 ^ 1))), .val (.int (1 : Int32)), .val (.int (Int32.ofNat c5)), .val (.ref r0), .val (.int (Int32.ofNat n_r0)), .val (.int (Int32.ofNat i)), s8] [(.int (Int32.ofNat (own_B v_r0 i % 2 ^ 1))), (.int (Int32.ofNat c5)), (.ref bw)]))
        refine Goes.go (fun _ kst => XS.iconst XJ.here hx rfl (hb hby d1_105) kst) ?_
        show Goes p e below s _ _ _ (TJ.setTop (mkF m 106 #[.val (.ref r0), .val (.ref bw), .val (.int (Int32.ofNat (own_B v_r0 i % 2 ^ 1))), .val (.int (1 : Int32)), .val (.int (Int32.ofNat c5)), .val (.ref r0), .val (.int (Int32.ofNat n_r0)), .val (.int (Int32.ofNat i)), s8] [(.int (5 : Int32)), (.int (Int32.ofNat (own_B v_r0 i % 2 ^ 1))), (.int (Int32.ofNat c5)), (.ref bw)]))
        refine Goes.go (fun _ kst => XS.iloadN XJ.here hx rfl (hb hby d1_106) rfl  kst) ?_
        show Goes p e below s _ _ _ (TJ.setTop (mkF m 107 #[.val (.ref r0), .val (.ref bw), .val (.int (Int32.ofNat (own_B v_r0 i % 2 ^ 1))), .val (.int (1 : Int32)), .val (.int (Int32.ofNat c5)), .val (.ref r0), .val (.int (Int32.ofNat n_r0)), .val (.int (Int32.ofNat i)), s8] [(.int (1 : Int32)), (.int (5 : Int32)), (.int (Int32.ofNat (own_B v_r0 i % 2 ^ 1))), (.int (Int32.ofNat c5)), (.ref bw)]))
        refine Goes.go (fun _ kst => XS.isub XJ.here hx rfl (hb hby d1_107) rfl kst) ?_
        show Goes p e below s _ _ _ (TJ.setTop (mkF m 108 #[.val (.ref r0), .val (.ref bw), .val (.int (Int32.ofNat (own_B v_r0 i % 2 ^ 1))), .val (.int (1 : Int32)), .val (.int (Int32.ofNat c5)), .val (.ref r0), .val (.int (Int32.ofNat n_r0)), .val (.int (Int32.ofNat i)), s8] [(.int ((5 : Int32) - (1 : Int32))), (.int (Int32.ofNat (own_B v_r0 i % 2 ^ 1))), (.int (Int32.ofNat c5)), (.ref bw)]))
        refine Goes.go (fun _ kst => XS.ishl XJ.here hx rfl (hb hby d1_108) rfl kst) ?_
        show Goes p e below s _ _ _ (TJ.setTop (mkF m 109 #[.val (.ref r0), .val (.ref bw), .val (.int (Int32.ofNat (own_B v_r0 i % 2 ^ 1))), .val (.int (1 : Int32)), .val (.int (Int32.ofNat c5)), .val (.ref r0), .val (.int (Int32.ofNat n_r0)), .val (.int (Int32.ofNat i)), s8] [(.int ((Int32.ofNat (own_B v_r0 i % 2 ^ 1)) <<< (((5 : Int32) - (1 : Int32)) &&& 31))), (.int (Int32.ofNat c5)), (.ref bw)]))
        refine Goes.go (fun _ kst => XS.bipush XJ.here hx rfl (hb hby d1_109) kst) ?_
        show Goes p e below s _ _ _ (TJ.setTop (mkF m 111 #[.val (.ref r0), .val (.ref bw), .val (.int (Int32.ofNat (own_B v_r0 i % 2 ^ 1))), .val (.int (1 : Int32)), .val (.int (Int32.ofNat c5)), .val (.ref r0), .val (.int (Int32.ofNat n_r0)), .val (.int (Int32.ofNat i)), s8] [(.int (31 : Int32)), (.int ((Int32.ofNat (own_B v_r0 i % 2 ^ 1)) <<< (((5 : Int32) - (1 : Int32)) &&& 31))), (.int (Int32.ofNat c5)), (.ref bw)]))
        refine Goes.go (fun _ kst => XS.iand XJ.here hx rfl (hb hby d1_111) rfl kst) ?_
        rw [show (((Int32.ofNat (own_B v_r0 i % 2 ^ 1)) <<< (((5 : Int32) - (1 : Int32)) &&& 31)) &&& (31 : Int32)) = Int32.ofNat (own_B v_r0 i % 2 ^ 1 * 2 ^ (5 - 1) % 32) from own_tail1 ⟨own_B v_r0 i % 2 ^ 1, hB 1 (by decide)⟩]
        show Goes p e below s _ _ _ (TJ.setTop (mkF m 112 #[.val (.ref r0), .val (.ref bw), .val (.int (Int32.ofNat (own_B v_r0 i % 2 ^ 1))), .val (.int (1 : Int32)), .val (.int (Int32.ofNat c5)), .val (.ref r0), .val (.int (Int32.ofNat n_r0)), .val (.int (Int32.ofNat i)), s8] [(.int (Int32.ofNat (own_B v_r0 i % 2 ^ 1 * 2 ^ (5 - 1) % 32))), (.int (Int32.ofNat c5)), (.ref bw)]))
        obtain ⟨T5, h5, X5, e5, W5, A5, st5⟩ := own_stI XJ hx hZ eJ AW (i := c5) rfl (by omega) (g := (mkF m 112 #[.val (.ref r0), .val (.ref bw), .val (.int (Int32.ofNat (own_B v_r0 i % 2 ^ 1))), .val (.int (1 : Int32)), .val (.int (Int32.ofNat c5)), .val (.ref r0), .val (.int (Int32.ofNat n_r0)), .val (.int (Int32.ofNat i)), s8] [(.int (Int32.ofNat (own_B v_r0 i % 2 ^ 1 * 2 ^ (5 - 1) % 32))), (.int (Int32.ofNat c5)), (.ref bw)])) rfl rfl (hb hby d1_112)
        have N5 := Fr.snoc X5 NJ gw
        have Z5 := Nat.le_trans ZJ (Keep.of_wr W5).1
        have K5 := Keep.wr KJ W5 (Or.inr sw)
        refine Goes.go st5 ?_
        show Goes p e below s _ _ _ (T5.setTop (mkF m 113 #[.val (.ref r0), .val (.ref bw), .val (.int (Int32.ofNat (own_B v_r0 i % 2 ^ 1))), .val (.int (1 : Int32)), .val (.int (Int32.ofNat c5)), .val (.ref r0), .val (.int (Int32.ofNat n_r0)), .val (.int (Int32.ofNat i)), s8] []))
        refine Goes.go (fun _ kst => XS.aloadN X5.here hx rfl (hb hby d1_113) rfl rfl  kst) ?_
        show Goes p e below s _ _ _ (T5.setTop (mkF m 114 #[.val (.ref r0), .val (.ref bw), .val (.int (Int32.ofNat (own_B v_r0 i % 2 ^ 1))), .val (.int (1 : Int32)), .val (.int (Int32.ofNat c5)), .val (.ref r0), .val (.int (Int32.ofNat n_r0)), .val (.int (Int32.ofNat i)), s8] [(.ref bw)]))
        refine Goes.retA X5 hx hlk rfl Bd.returns rfl (hb hby d1_114) ?_ (by decide) (by decide)
        exact (show Q_rm1 Z n_r0 v_r0 h0 n0 _ T5.heap _ by rw [e5]; exact ⟨bw, sw, rfl, N5, K5, by subst hi; exact (A5).as (fun k hk' => own_tR hc hbv k hk')⟩)
      · skip
        show Goes p e below s _ _ _ (TJ.setTop (mkF m 30 #[.val (.ref r0), .val (.ref bw), .val (.int (Int32.ofNat (own_B v_r0 i % 2 ^ 2))), .val (.int (2 : Int32)), .val (.int (Int32.ofNat c5)), .val (.ref r0), .val (.int (Int32.ofNat n_r0)), .val (.int (Int32.ofNat i)), s8] []))
        refine Goes.go (fun _ kst => XS.iload XJ.here hx rfl (hb hby d1_30) rfl  kst) ?_
        show Goes p e below s _ _ _ (TJ.setTop (mkF m 32 #[.val (.ref r0), .val (.ref bw), .val (.int (Int32.ofNat (own_B v_r0 i % 2 ^ 2))), .val (.int (2 : Int32)), .val (.int (Int32.ofNat c5)), .val (.ref r0), .val (.int (Int32.ofNat n_r0)), .val (.int (Int32.ofNat i)), s8] [(.int (Int32.ofNat i))]))
        refine Goes.go (fun _ kst => XS.iload XJ.here hx rfl (hb hby d1_32) rfl  kst) ?_
        show Goes p e below s _ _ _ (TJ.setTop (mkF m 34 #[.val (.ref r0), .val (.ref bw), .val (.int (Int32.ofNat (own_B v_r0 i % 2 ^ 2))), .val (.int (2 : Int32)), .val (.int (Int32.ofNat c5)), .val (.ref r0), .val (.int (Int32.ofNat n_r0)), .val (.int (Int32.ofNat i)), s8] [(.int (Int32.ofNat n_r0)), (.int (Int32.ofNat i))]))
        have hc34_6 : ¬ ((Int32.ofNat i) < (Int32.ofNat n_r0)) := fun q => by have := (own_lt (by omega) (by omega)).mp q; omega
        refine Goes.go (fun _ kst => XS.icmpYes XJ.here hx rfl (pc0 := 34) (pc' := 97) rfl (hb hby d1_34) rfl (flt hc34_6).2.1 (by decide) (by decide) kst) ?_
        show Goes p e below s _ _ _ (TJ.setTop (mkF m 97 #[.val (.ref r0), .val (.ref bw), .val (.int (Int32.ofNat (own_B v_r0 i % 2 ^ 2))), .val (.int (2 : Int32)), .val (.int (Int32.ofNat c5)), .val (.ref r0), .val (.int (Int32.ofNat n_r0)), .val (.int (Int32.ofNat i)), s8] []))
        refine Goes.go (fun _ kst => XS.iloadN XJ.here hx rfl (hb hby d1_97) rfl  kst) ?_
        show Goes p e below s _ _ _ (TJ.setTop (mkF m 98 #[.val (.ref r0), .val (.ref bw), .val (.int (Int32.ofNat (own_B v_r0 i % 2 ^ 2))), .val (.int (2 : Int32)), .val (.int (Int32.ofNat c5)), .val (.ref r0), .val (.int (Int32.ofNat n_r0)), .val (.int (Int32.ofNat i)), s8] [(.int (2 : Int32))]))
        have hc98_7 : (0 : Int32) < (2 : Int32) := (by decide)
        refine Goes.go (fun _ kst => XS.ifNo XJ.here hx rfl (hb hby d1_98) rfl ((if0 _ _).trans (tlt hc98_7).2.2.2) kst) ?_
        show Goes p e below s _ _ _ (TJ.setTop (mkF m 101 #[.val (.ref r0), .val (.ref bw), .val (.int (Int32.ofNat (own_B v_r0 i % 2 ^ 2))), .val (.int (2 : Int32)), .val (.int (Int32.ofNat c5)), .val (.ref r0), .val (.int (Int32.ofNat n_r0)), .val (.int (Int32.ofNat i)), s8] []))
        refine Goes.go (fun _ kst => XS.aloadN XJ.here hx rfl (hb hby d1_101) rfl rfl  kst) ?_
        show Goes p e below s _ _ _ (TJ.setTop (mkF m 102 #[.val (.ref r0), .val (.ref bw), .val (.int (Int32.ofNat (own_B v_r0 i % 2 ^ 2))), .val (.int (2 : Int32)), .val (.int (Int32.ofNat c5)), .val (.ref r0), .val (.int (Int32.ofNat n_r0)), .val (.int (Int32.ofNat i)), s8] [(.ref bw)]))
        refine Goes.go (fun _ kst => XS.iload XJ.here hx rfl (hb hby d1_102) rfl  kst) ?_
        show Goes p e below s _ _ _ (TJ.setTop (mkF m 104 #[.val (.ref r0), .val (.ref bw), .val (.int (Int32.ofNat (own_B v_r0 i % 2 ^ 2))), .val (.int (2 : Int32)), .val (.int (Int32.ofNat c5)), .val (.ref r0), .val (.int (Int32.ofNat n_r0)), .val (.int (Int32.ofNat i)), s8] [(.int (Int32.ofNat c5)), (.ref bw)]))
        refine Goes.go (fun _ kst => XS.iloadN XJ.here hx rfl (hb hby d1_104) rfl  kst) ?_
        show Goes p e below s _ _ _ (TJ.setTop (mkF m 105 #[.val (.ref r0), .val (.ref bw), .val (.int (Int32.ofNat (own_B v_r0 i % 2 ^ 2))), .val (.int (2 : Int32)), .val (.int (Int32.ofNat c5)), .val (.ref r0), .val (.int (Int32.ofNat n_r0)), .val (.int (Int32.ofNat i)), s8] [(.int (Int32.ofNat (own_B v_r0 i % 2 ^ 2))), (.int (Int32.ofNat c5)), (.ref bw)]))
        refine Goes.go (fun _ kst => XS.iconst XJ.here hx rfl (hb hby d1_105) kst) ?_
        show Goes p e below s _ _ _ (TJ.setTop (mkF m 106 #[.val (.ref r0), .val (.ref bw), .val (.int (Int32.ofNat (own_B v_r0 i % 2 ^ 2))), .val (.int (2 : Int32)), .val (.int (Int32.ofNat c5)), .val (.ref r0), .val (.int (Int32.ofNat n_r0)), .val (.int (Int32.ofNat i)), s8] [(.int (5 : Int32)), (.int (Int32.ofNat (own_B v_r0 i % 2 ^ 2))), (.int (Int32.ofNat c5)), (.ref bw)]))
        refine Goes.go (fun _ kst => XS.iloadN XJ.here hx rfl (hb hby d1_106) rfl  kst) ?_
        show Goes p e below s _ _ _ (TJ.setTop (mkF m 107 #[.val (.ref r0), .val (.ref bw), .val (.int (Int32.ofNat (own_B v_r0 i % 2 ^ 2))), .val (.int (2 : Int32)), .val (.int (Int32.ofNat c5)), .val (.ref r0), .val (.int (Int32.ofNat n_r0)), .val (.int (Int32.ofNat i)), s8] [(.int (2 : Int32)), (.int (5 : Int32)), (.int (Int32.ofNat (own_B v_r0 i % 2 ^ 2))), (.int (Int32.ofNat c5)), (.ref bw)]))
        refine Goes.go (fun _ kst => XS.isub XJ.here hx rfl (hb hby d1_107) rfl kst) ?_
        show Goes p e below s _ _ _ (TJ.setTop (mkF m 108 #[.val (.ref r0), .val (.ref bw), .val (.int (Int32.ofNat (own_B v_r0 i % 2 ^ 2))), .val (.int (2 : Int32)), .val (.int (Int32.ofNat c5)), .val (.ref r0), .val (.int (Int32.ofNat n_r0)), .val (.int (Int32.ofNat i)), s8] [(.int ((5 : Int32) - (2 : Int32))), (.int (Int32.ofNat (own_B v_r0 i % 2 ^ 2))), (.int (Int32.ofNat c5)), (.ref bw)]))
        refine Goes.go (fun _ kst => XS.ishl XJ.here hx rfl (hb hby d1_108) rfl kst) ?_
        show Goes p e below s _ _ _ (TJ.setTop (mkF m 109 #[.val (.ref r0), .val (.ref bw), .val (.int (Int32.ofNat (own_B v_r0 i % 2 ^ 2))), .val (.int (2 : Int32)), .val (.int (Int32.ofNat c5)), .val (.ref r0), .val (.int (Int32.ofNat n_r0)), .val (.int (Int32.ofNat i)), s8] [(.int ((Int32.ofNat (own_B v_r0 i % 2 ^ 2)) <<< (((5 : Int32) - (2 : Int32)) &&& 31))), (.int (Int32.ofNat c5)), (.ref bw)]))
        refine Goes.go (fun _ kst => XS.bipush XJ.here hx rfl (hb hby d1_109) kst) ?_
        show Goes p e below s _ _ _ (TJ.setTop (mkF m 111 #[.val (.ref r0), .val (.ref bw), .val (.int (Int32.ofNat (own_B v_r0 i % 2 ^ 2))), .val (.int (2 : Int32)), .val (.int (Int32.ofNat c5)), .val (.ref r0), .val (.int (Int32.ofNat n_r0)), .val (.int (Int32.ofNat i)), s8] [(.int (31 : Int32)), (.int ((Int32.ofNat (own_B v_r0 i % 2 ^ 2)) <<< (((5 : Int32) - (2 : Int32)) &&& 31))), (.int (Int32.ofNat c5)), (.ref bw)]))
        refine Goes.go (fun _ kst => XS.iand XJ.here hx rfl (hb hby d1_111) rfl kst) ?_
        rw [show (((Int32.ofNat (own_B v_r0 i % 2 ^ 2)) <<< (((5 : Int32) - (2 : Int32)) &&& 31)) &&& (31 : Int32)) = Int32.ofNat (own_B v_r0 i % 2 ^ 2 * 2 ^ (5 - 2) % 32) from own_tail2 ⟨own_B v_r0 i % 2 ^ 2, hB 2 (by decide)⟩]
        show Goes p e below s _ _ _ (TJ.setTop (mkF m 112 #[.val (.ref r0), .val (.ref bw), .val (.int (Int32.ofNat (own_B v_r0 i % 2 ^ 2))), .val (.int (2 : Int32)), .val (.int (Int32.ofNat c5)), .val (.ref r0), .val (.int (Int32.ofNat n_r0)), .val (.int (Int32.ofNat i)), s8] [(.int (Int32.ofNat (own_B v_r0 i % 2 ^ 2 * 2 ^ (5 - 2) % 32))), (.int (Int32.ofNat c5)), (.ref bw)]))
        obtain ⟨T8, h8, X8, e8, W8, A8, st8⟩ := own_stI XJ hx hZ eJ AW (i := c5) rfl (by omega) (g := (mkF m 112 #[.val (.ref r0), .val (.ref bw), .val (.int (Int32.ofNat (own_B v_r0 i % 2 ^ 2))), .val (.int (2 : Int32)), .val (.int (Int32.ofNat c5)), .val (.ref r0), .val (.int (Int32.ofNat n_r0)), .val (.int (Int32.ofNat i)), s8] [(.int (Int32.ofNat (own_B v_r0 i % 2 ^ 2 * 2 ^ (5 - 2) % 32))), (.int (Int32.ofNat c5)), (.ref bw)])) rfl rfl (hb hby d1_112)
        have N8 := Fr.snoc X8 NJ gw
        have Z8 := Nat.le_trans ZJ (Keep.of_wr W8).1
        have K8 := Keep.wr KJ W8 (Or.inr sw)
        refine Goes.go st8 ?_
        show Goes p e below s _ _ _ (T8.setTop (mkF m 113 #[.val (.ref r0), .val (.ref bw), .val (.int (Int32.ofNat (own_B v_r0 i % 2 ^ 2))), .val (.int (2 : Int32)), .val (.int (Int32.ofNat c5)), .val (.ref r0), .val (.int (Int32.ofNat n_r0)), .val (.int (Int32.ofNat i)), s8] []))
        refine Goes.go (fun _ kst => XS.aloadN X8.here hx rfl (hb hby d1_113) rfl rfl  kst) ?_
        show Goes p e below s _ _ _ (T8.setTop (mkF m 114 #[.val (.ref r0), .val (.ref bw), .val (.int (Int32.ofNat (own_B v_r0 i % 2 ^ 2))), .val (.int (2 : Int32)), .val (.int (Int32.ofNat c5)), .val (.ref r0), .val (.int (Int32.ofNat n_r0)), .val (.int (Int32.ofNat i)), s8] [(.ref bw)]))
        refine Goes.retA X8 hx hlk rfl Bd.returns rfl (hb hby d1_114) ?_ (by decide) (by decide)
        exact (show Q_rm1 Z n_r0 v_r0 h0 n0 _ T8.heap _ by rw [e8]; exact ⟨bw, sw, rfl, N8, K8, by subst hi; exact (A8).as (fun k hk' => own_tR hc hbv k hk')⟩)
      · skip
        show Goes p e below s _ _ _ (TJ.setTop (mkF m 30 #[.val (.ref r0), .val (.ref bw), .val (.int (Int32.ofNat (own_B v_r0 i % 2 ^ 3))), .val (.int (3 : Int32)), .val (.int (Int32.ofNat c5)), .val (.ref r0), .val (.int (Int32.ofNat n_r0)), .val (.int (Int32.ofNat i)), s8] []))
        refine Goes.go (fun _ kst => XS.iload XJ.here hx rfl (hb hby d1_30) rfl  kst) ?_
        show Goes p e below s _ _ _ (TJ.setTop (mkF m 32 #[.val (.ref r0), .val (.ref bw), .val (.int (Int32.ofNat (own_B v_r0 i % 2 ^ 3))), .val (.int (3 : Int32)), .val (.int (Int32.ofNat c5)), .val (.ref r0), .val (.int (Int32.ofNat n_r0)), .val (.int (Int32.ofNat i)), s8] [(.int (Int32.ofNat i))]))
        refine Goes.go (fun _ kst => XS.iload XJ.here hx rfl (hb hby d1_32) rfl  kst) ?_
        show Goes p e below s _ _ _ (TJ.setTop (mkF m 34 #[.val (.ref r0), .val (.ref bw), .val (.int (Int32.ofNat (own_B v_r0 i % 2 ^ 3))), .val (.int (3 : Int32)), .val (.int (Int32.ofNat c5)), .val (.ref r0), .val (.int (Int32.ofNat n_r0)), .val (.int (Int32.ofNat i)), s8] [(.int (Int32.ofNat n_r0)), (.int (Int32.ofNat i))]))
        have hc34_9 : ¬ ((Int32.ofNat i) < (Int32.ofNat n_r0)) := fun q => by have := (own_lt (by omega) (by omega)).mp q; omega
        refine Goes.go (fun _ kst => XS.icmpYes XJ.here hx rfl (pc0 := 34) (pc' := 97) rfl (hb hby d1_34) rfl (flt hc34_9).2.1 (by decide) (by decide) kst) ?_
        show Goes p e below s _ _ _ (TJ.setTop (mkF m 97 #[.val (.ref r0), .val (.ref bw), .val (.int (Int32.ofNat (own_B v_r0 i % 2 ^ 3))), .val (.int (3 : Int32)), .val (.int (Int32.ofNat c5)), .val (.ref r0), .val (.int (Int32.ofNat n_r0)), .val (.int (Int32.ofNat i)), s8] []))
        refine Goes.go (fun _ kst => XS.iloadN XJ.here hx rfl (hb hby d1_97) rfl  kst) ?_
        show Goes p e below s _ _ _ (TJ.setTop (mkF m 98 #[.val (.ref r0), .val (.ref bw), .val (.int (Int32.ofNat (own_B v_r0 i % 2 ^ 3))), .val (.int (3 : Int32)), .val (.int (Int32.ofNat c5)), .val (.ref r0), .val (.int (Int32.ofNat n_r0)), .val (.int (Int32.ofNat i)), s8] [(.int (3 : Int32))]))
        have hc98_10 : (0 : Int32) < (3 : Int32) := (by decide)
        refine Goes.go (fun _ kst => XS.ifNo XJ.here hx rfl (hb hby d1_98) rfl ((if0 _ _).trans (tlt hc98_10).2.2.2) kst) ?_
        show Goes p e below s _ _ _ (TJ.setTop (mkF m 101 #[.val (.ref r0), .val (.ref bw), .val (.int (Int32.ofNat (own_B v_r0 i % 2 ^ 3))), .val (.int (3 : Int32)), .val (.int (Int32.ofNat c5)), .val (.ref r0), .val (.int (Int32.ofNat n_r0)), .val (.int (Int32.ofNat i)), s8] []))
        refine Goes.go (fun _ kst => XS.aloadN XJ.here hx rfl (hb hby d1_101) rfl rfl  kst) ?_
        show Goes p e below s _ _ _ (TJ.setTop (mkF m 102 #[.val (.ref r0), .val (.ref bw), .val (.int (Int32.ofNat (own_B v_r0 i % 2 ^ 3))), .val (.int (3 : Int32)), .val (.int (Int32.ofNat c5)), .val (.ref r0), .val (.int (Int32.ofNat n_r0)), .val (.int (Int32.ofNat i)), s8] [(.ref bw)]))
        refine Goes.go (fun _ kst => XS.iload XJ.here hx rfl (hb hby d1_102) rfl  kst) ?_
        show Goes p e below s _ _ _ (TJ.setTop (mkF m 104 #[.val (.ref r0), .val (.ref bw), .val (.int (Int32.ofNat (own_B v_r0 i % 2 ^ 3))), .val (.int (3 : Int32)), .val (.int (Int32.ofNat c5)), .val (.ref r0), .val (.int (Int32.ofNat n_r0)), .val (.int (Int32.ofNat i)), s8] [(.int (Int32.ofNat c5)), (.ref bw)]))
        refine Goes.go (fun _ kst => XS.iloadN XJ.here hx rfl (hb hby d1_104) rfl  kst) ?_
        show Goes p e below s _ _ _ (TJ.setTop (mkF m 105 #[.val (.ref r0), .val (.ref bw), .val (.int (Int32.ofNat (own_B v_r0 i % 2 ^ 3))), .val (.int (3 : Int32)), .val (.int (Int32.ofNat c5)), .val (.ref r0), .val (.int (Int32.ofNat n_r0)), .val (.int (Int32.ofNat i)), s8] [(.int (Int32.ofNat (own_B v_r0 i % 2 ^ 3))), (.int (Int32.ofNat c5)), (.ref bw)]))
        refine Goes.go (fun _ kst => XS.iconst XJ.here hx rfl (hb hby d1_105) kst) ?_
        show Goes p e below s _ _ _ (TJ.setTop (mkF m 106 #[.val (.ref r0), .val (.ref bw), .val (.int (Int32.ofNat (own_B v_r0 i % 2 ^ 3))), .val (.int (3 : Int32)), .val (.int (Int32.ofNat c5)), .val (.ref r0), .val (.int (Int32.ofNat n_r0)), .val (.int (Int32.ofNat i)), s8] [(.int (5 : Int32)), (.int (Int32.ofNat (own_B v_r0 i % 2 ^ 3))), (.int (Int32.ofNat c5)), (.ref bw)]))
        refine Goes.go (fun _ kst => XS.iloadN XJ.here hx rfl (hb hby d1_106) rfl  kst) ?_
        show Goes p e below s _ _ _ (TJ.setTop (mkF m 107 #[.val (.ref r0), .val (.ref bw), .val (.int (Int32.ofNat (own_B v_r0 i % 2 ^ 3))), .val (.int (3 : Int32)), .val (.int (Int32.ofNat c5)), .val (.ref r0), .val (.int (Int32.ofNat n_r0)), .val (.int (Int32.ofNat i)), s8] [(.int (3 : Int32)), (.int (5 : Int32)), (.int (Int32.ofNat (own_B v_r0 i % 2 ^ 3))), (.int (Int32.ofNat c5)), (.ref bw)]))
        refine Goes.go (fun _ kst => XS.isub XJ.here hx rfl (hb hby d1_107) rfl kst) ?_
        show Goes p e below s _ _ _ (TJ.setTop (mkF m 108 #[.val (.ref r0), .val (.ref bw), .val (.int (Int32.ofNat (own_B v_r0 i % 2 ^ 3))), .val (.int (3 : Int32)), .val (.int (Int32.ofNat c5)), .val (.ref r0), .val (.int (Int32.ofNat n_r0)), .val (.int (Int32.ofNat i)), s8] [(.int ((5 : Int32) - (3 : Int32))), (.int (Int32.ofNat (own_B v_r0 i % 2 ^ 3))), (.int (Int32.ofNat c5)), (.ref bw)]))
        refine Goes.go (fun _ kst => XS.ishl XJ.here hx rfl (hb hby d1_108) rfl kst) ?_
        show Goes p e below s _ _ _ (TJ.setTop (mkF m 109 #[.val (.ref r0), .val (.ref bw), .val (.int (Int32.ofNat (own_B v_r0 i % 2 ^ 3))), .val (.int (3 : Int32)), .val (.int (Int32.ofNat c5)), .val (.ref r0), .val (.int (Int32.ofNat n_r0)), .val (.int (Int32.ofNat i)), s8] [(.int ((Int32.ofNat (own_B v_r0 i % 2 ^ 3)) <<< (((5 : Int32) - (3 : Int32)) &&& 31))), (.int (Int32.ofNat c5)), (.ref bw)]))
        refine Goes.go (fun _ kst => XS.bipush XJ.here hx rfl (hb hby d1_109) kst) ?_
        show Goes p e below s _ _ _ (TJ.setTop (mkF m 111 #[.val (.ref r0), .val (.ref bw), .val (.int (Int32.ofNat (own_B v_r0 i % 2 ^ 3))), .val (.int (3 : Int32)), .val (.int (Int32.ofNat c5)), .val (.ref r0), .val (.int (Int32.ofNat n_r0)), .val (.int (Int32.ofNat i)), s8] [(.int (31 : Int32)), (.int ((Int32.ofNat (own_B v_r0 i % 2 ^ 3)) <<< (((5 : Int32) - (3 : Int32)) &&& 31))), (.int (Int32.ofNat c5)), (.ref bw)]))
        refine Goes.go (fun _ kst => XS.iand XJ.here hx rfl (hb hby d1_111) rfl kst) ?_
        rw [show (((Int32.ofNat (own_B v_r0 i % 2 ^ 3)) <<< (((5 : Int32) - (3 : Int32)) &&& 31)) &&& (31 : Int32)) = Int32.ofNat (own_B v_r0 i % 2 ^ 3 * 2 ^ (5 - 3) % 32) from own_tail3 ⟨own_B v_r0 i % 2 ^ 3, hB 3 (by decide)⟩]
        show Goes p e below s _ _ _ (TJ.setTop (mkF m 112 #[.val (.ref r0), .val (.ref bw), .val (.int (Int32.ofNat (own_B v_r0 i % 2 ^ 3))), .val (.int (3 : Int32)), .val (.int (Int32.ofNat c5)), .val (.ref r0), .val (.int (Int32.ofNat n_r0)), .val (.int (Int32.ofNat i)), s8] [(.int (Int32.ofNat (own_B v_r0 i % 2 ^ 3 * 2 ^ (5 - 3) % 32))), (.int (Int32.ofNat c5)), (.ref bw)]))
        obtain ⟨T11, h11, X11, e11, W11, A11, st11⟩ := own_stI XJ hx hZ eJ AW (i := c5) rfl (by omega) (g := (mkF m 112 #[.val (.ref r0), .val (.ref bw), .val (.int (Int32.ofNat (own_B v_r0 i % 2 ^ 3))), .val (.int (3 : Int32)), .val (.int (Int32.ofNat c5)), .val (.ref r0), .val (.int (Int32.ofNat n_r0)), .val (.int (Int32.ofNat i)), s8] [(.int (Int32.ofNat (own_B v_r0 i % 2 ^ 3 * 2 ^ (5 - 3) % 32))), (.int (Int32.ofNat c5)), (.ref bw)])) rfl rfl (hb hby d1_112)
        have N11 := Fr.snoc X11 NJ gw
        have Z11 := Nat.le_trans ZJ (Keep.of_wr W11).1
        have K11 := Keep.wr KJ W11 (Or.inr sw)
        refine Goes.go st11 ?_
        show Goes p e below s _ _ _ (T11.setTop (mkF m 113 #[.val (.ref r0), .val (.ref bw), .val (.int (Int32.ofNat (own_B v_r0 i % 2 ^ 3))), .val (.int (3 : Int32)), .val (.int (Int32.ofNat c5)), .val (.ref r0), .val (.int (Int32.ofNat n_r0)), .val (.int (Int32.ofNat i)), s8] []))
        refine Goes.go (fun _ kst => XS.aloadN X11.here hx rfl (hb hby d1_113) rfl rfl  kst) ?_
        show Goes p e below s _ _ _ (T11.setTop (mkF m 114 #[.val (.ref r0), .val (.ref bw), .val (.int (Int32.ofNat (own_B v_r0 i % 2 ^ 3))), .val (.int (3 : Int32)), .val (.int (Int32.ofNat c5)), .val (.ref r0), .val (.int (Int32.ofNat n_r0)), .val (.int (Int32.ofNat i)), s8] [(.ref bw)]))
        refine Goes.retA X11 hx hlk rfl Bd.returns rfl (hb hby d1_114) ?_ (by decide) (by decide)
        exact (show Q_rm1 Z n_r0 v_r0 h0 n0 _ T11.heap _ by rw [e11]; exact ⟨bw, sw, rfl, N11, K11, by subst hi; exact (A11).as (fun k hk' => own_tR hc hbv k hk')⟩)
      · skip
        show Goes p e below s _ _ _ (TJ.setTop (mkF m 30 #[.val (.ref r0), .val (.ref bw), .val (.int (Int32.ofNat (own_B v_r0 i % 2 ^ 4))), .val (.int (4 : Int32)), .val (.int (Int32.ofNat c5)), .val (.ref r0), .val (.int (Int32.ofNat n_r0)), .val (.int (Int32.ofNat i)), s8] []))
        refine Goes.go (fun _ kst => XS.iload XJ.here hx rfl (hb hby d1_30) rfl  kst) ?_
        show Goes p e below s _ _ _ (TJ.setTop (mkF m 32 #[.val (.ref r0), .val (.ref bw), .val (.int (Int32.ofNat (own_B v_r0 i % 2 ^ 4))), .val (.int (4 : Int32)), .val (.int (Int32.ofNat c5)), .val (.ref r0), .val (.int (Int32.ofNat n_r0)), .val (.int (Int32.ofNat i)), s8] [(.int (Int32.ofNat i))]))
        refine Goes.go (fun _ kst => XS.iload XJ.here hx rfl (hb hby d1_32) rfl  kst) ?_
        show Goes p e below s _ _ _ (TJ.setTop (mkF m 34 #[.val (.ref r0), .val (.ref bw), .val (.int (Int32.ofNat (own_B v_r0 i % 2 ^ 4))), .val (.int (4 : Int32)), .val (.int (Int32.ofNat c5)), .val (.ref r0), .val (.int (Int32.ofNat n_r0)), .val (.int (Int32.ofNat i)), s8] [(.int (Int32.ofNat n_r0)), (.int (Int32.ofNat i))]))
        have hc34_12 : ¬ ((Int32.ofNat i) < (Int32.ofNat n_r0)) := fun q => by have := (own_lt (by omega) (by omega)).mp q; omega
        refine Goes.go (fun _ kst => XS.icmpYes XJ.here hx rfl (pc0 := 34) (pc' := 97) rfl (hb hby d1_34) rfl (flt hc34_12).2.1 (by decide) (by decide) kst) ?_
        show Goes p e below s _ _ _ (TJ.setTop (mkF m 97 #[.val (.ref r0), .val (.ref bw), .val (.int (Int32.ofNat (own_B v_r0 i % 2 ^ 4))), .val (.int (4 : Int32)), .val (.int (Int32.ofNat c5)), .val (.ref r0), .val (.int (Int32.ofNat n_r0)), .val (.int (Int32.ofNat i)), s8] []))
        refine Goes.go (fun _ kst => XS.iloadN XJ.here hx rfl (hb hby d1_97) rfl  kst) ?_
        show Goes p e below s _ _ _ (TJ.setTop (mkF m 98 #[.val (.ref r0), .val (.ref bw), .val (.int (Int32.ofNat (own_B v_r0 i % 2 ^ 4))), .val (.int (4 : Int32)), .val (.int (Int32.ofNat c5)), .val (.ref r0), .val (.int (Int32.ofNat n_r0)), .val (.int (Int32.ofNat i)), s8] [(.int (4 : Int32))]))
        have hc98_13 : (0 : Int32) < (4 : Int32) := (by decide)
        refine Goes.go (fun _ kst => XS.ifNo XJ.here hx rfl (hb hby d1_98) rfl ((if0 _ _).trans (tlt hc98_13).2.2.2) kst) ?_
        show Goes p e below s _ _ _ (TJ.setTop (mkF m 101 #[.val (.ref r0), .val (.ref bw), .val (.int (Int32.ofNat (own_B v_r0 i % 2 ^ 4))), .val (.int (4 : Int32)), .val (.int (Int32.ofNat c5)), .val (.ref r0), .val (.int (Int32.ofNat n_r0)), .val (.int (Int32.ofNat i)), s8] []))
        refine Goes.go (fun _ kst => XS.aloadN XJ.here hx rfl (hb hby d1_101) rfl rfl  kst) ?_
        show Goes p e below s _ _ _ (TJ.setTop (mkF m 102 #[.val (.ref r0), .val (.ref bw), .val (.int (Int32.ofNat (own_B v_r0 i % 2 ^ 4))), .val (.int (4 : Int32)), .val (.int (Int32.ofNat c5)), .val (.ref r0), .val (.int (Int32.ofNat n_r0)), .val (.int (Int32.ofNat i)), s8] [(.ref bw)]))
        refine Goes.go (fun _ kst => XS.iload XJ.here hx rfl (hb hby d1_102) rfl  kst) ?_
        show Goes p e below s _ _ _ (TJ.setTop (mkF m 104 #[.val (.ref r0), .val (.ref bw), .val (.int (Int32.ofNat (own_B v_r0 i % 2 ^ 4))), .val (.int (4 : Int32)), .val (.int (Int32.ofNat c5)), .val (.ref r0), .val (.int (Int32.ofNat n_r0)), .val (.int (Int32.ofNat i)), s8] [(.int (Int32.ofNat c5)), (.ref bw)]))
        refine Goes.go (fun _ kst => XS.iloadN XJ.here hx rfl (hb hby d1_104) rfl  kst) ?_
        show Goes p e below s _ _ _ (TJ.setTop (mkF m 105 #[.val (.ref r0), .val (.ref bw), .val (.int (Int32.ofNat (own_B v_r0 i % 2 ^ 4))), .val (.int (4 : Int32)), .val (.int (Int32.ofNat c5)), .val (.ref r0), .val (.int (Int32.ofNat n_r0)), .val (.int (Int32.ofNat i)), s8] [(.int (Int32.ofNat (own_B v_r0 i % 2 ^ 4))), (.int (Int32.ofNat c5)), (.ref bw)]))
        refine Goes.go (fun _ kst => XS.iconst XJ.here hx rfl (hb hby d1_105) kst) ?_
        show Goes p e below s _ _ _ (TJ.setTop (mkF m 106 #[.val (.ref r0), .val (.ref bw), .val (.int (Int32.ofNat (own_B v_r0 i % 2 ^ 4))), .val (.int (4 : Int32)), .val (.int (Int32.ofNat c5)), .val (.ref r0), .val (.int (Int32.ofNat n_r0)), .val (.int (Int32.ofNat i)), s8] [(.int (5 : Int32)), (.int (Int32.ofNat (own_B v_r0 i % 2 ^ 4))), (.int (Int32.ofNat c5)), (.ref bw)]))
        refine Goes.go (fun _ kst => XS.iloadN XJ.here hx rfl (hb hby d1_106) rfl  kst) ?_
        show Goes p e below s _ _ _ (TJ.setTop (mkF m 107 #[.val (.ref r0), .val (.ref bw), .val (.int (Int32.ofNat (own_B v_r0 i % 2 ^ 4))), .val (.int (4 : Int32)), .val (.int (Int32.ofNat c5)), .val (.ref r0), .val (.int (Int32.ofNat n_r0)), .val (.int (Int32.ofNat i)), s8] [(.int (4 : Int32)), (.int (5 : Int32)), (.int (Int32.ofNat (own_B v_r0 i % 2 ^ 4))), (.int (Int32.ofNat c5)), (.ref bw)]))
        refine Goes.go (fun _ kst => XS.isub XJ.here hx rfl (hb hby d1_107) rfl kst) ?_
        show Goes p e below s _ _ _ (TJ.setTop (mkF m 108 #[.val (.ref r0), .val (.ref bw), .val (.int (Int32.ofNat (own_B v_r0 i % 2 ^ 4))), .val (.int (4 : Int32)), .val (.int (Int32.ofNat c5)), .val (.ref r0), .val (.int (Int32.ofNat n_r0)), .val (.int (Int32.ofNat i)), s8] [(.int ((5 : Int32) - (4 : Int32))), (.int (Int32.ofNat (own_B v_r0 i % 2 ^ 4))), (.int (Int32.ofNat c5)), (.ref bw)]))
        refine Goes.go (fun _ kst => XS.ishl XJ.here hx rfl (hb hby d1_108) rfl kst) ?_
        show Goes p e below s _ _ _ (TJ.setTop (mkF m 109 #[.val (.ref r0), .val (.ref bw), .val (.int (Int32.ofNat (own_B v_r0 i % 2 ^ 4))), .val (.int (4 : Int32)), .val (.int (Int32.ofNat c5)), .val (.ref r0), .val (.int (Int32.ofNat n_r0)), .val (.int (Int32.ofNat i)), s8] [(.int ((Int32.ofNat (own_B v_r0 i % 2 ^ 4)) <<< (((5 : Int32) - (4 : Int32)) &&& 31))), (.int (Int32.ofNat c5)), (.ref bw)]))
        refine Goes.go (fun _ kst => XS.bipush XJ.here hx rfl (hb hby d1_109) kst) ?_
        show Goes p e below s _ _ _ (TJ.setTop (mkF m 111 #[.val (.ref r0), .val (.ref bw), .val (.int (Int32.ofNat (own_B v_r0 i % 2 ^ 4))), .val (.int (4 : Int32)), .val (.int (Int32.ofNat c5)), .val (.ref r0), .val (.int (Int32.ofNat n_r0)), .val (.int (Int32.ofNat i)), s8] [(.int (31 : Int32)), (.int ((Int32.ofNat (own_B v_r0 i % 2 ^ 4)) <<< (((5 : Int32) - (4 : Int32)) &&& 31))), (.int (Int32.ofNat c5)), (.ref bw)]))
        refine Goes.go (fun _ kst => XS.iand XJ.here hx rfl (hb hby d1_111) rfl kst) ?_
        rw [show (((Int32.ofNat (own_B v_r0 i % 2 ^ 4)) <<< (((5 : Int32) - (4 : Int32)) &&& 31)) &&& (31 : Int32)) = Int32.ofNat (own_B v_r0 i % 2 ^ 4 * 2 ^ (5 - 4) % 32) from own_tail4 ⟨own_B v_r0 i % 2 ^ 4, hB 4 (by decide)⟩]
        show Goes p e below s _ _ _ (TJ.setTop (mkF m 112 #[.val (.ref r0), .val (.ref bw), .val (.int (Int32.ofNat (own_B v_r0 i % 2 ^ 4))), .val (.int (4 : Int32)), .val (.int (Int32.ofNat c5)), .val (.ref r0), .val (.int (Int32.ofNat n_r0)), .val (.int (Int32.ofNat i)), s8] [(.int (Int32.ofNat (own_B v_r0 i % 2 ^ 4 * 2 ^ (5 - 4) % 32))), (.int (Int32.ofNat c5)), (.ref bw)]))
        obtain ⟨T14, h14, X14, e14, W14, A14, st14⟩ := own_stI XJ hx hZ eJ AW (i := c5) rfl (by omega) (g := (mkF m 112 #[.val (.ref r0), .val (.ref bw), .val (.int (Int32.ofNat (own_B v_r0 i % 2 ^ 4))), .val (.int (4 : Int32)), .val (.int (Int32.ofNat c5)), .val (.ref r0), .val (.int (Int32.ofNat n_r0)), .val (.int (Int32.ofNat i)), s8] [(.int (Int32.ofNat (own_B v_r0 i % 2 ^ 4 * 2 ^ (5 - 4) % 32))), (.int (Int32.ofNat c5)), (.ref bw)])) rfl rfl (hb hby d1_112)
        have N14 := Fr.snoc X14 NJ gw
        have Z14 := Nat.le_trans ZJ (Keep.of_wr W14).1
        have K14 := Keep.wr KJ W14 (Or.inr sw)
        refine Goes.go st14 ?_
        show Goes p e below s _ _ _ (T14.setTop (mkF m 113 #[.val (.ref r0), .val (.ref bw), .val (.int (Int32.ofNat (own_B v_r0 i % 2 ^ 4))), .val (.int (4 : Int32)), .val (.int (Int32.ofNat c5)), .val (.ref r0), .val (.int (Int32.ofNat n_r0)), .val (.int (Int32.ofNat i)), s8] []))
        refine Goes.go (fun _ kst => XS.aloadN X14.here hx rfl (hb hby d1_113) rfl rfl  kst) ?_
        show Goes p e below s _ _ _ (T14.setTop (mkF m 114 #[.val (.ref r0), .val (.ref bw), .val (.int (Int32.ofNat (own_B v_r0 i % 2 ^ 4))), .val (.int (4 : Int32)), .val (.int (Int32.ofNat c5)), .val (.ref r0), .val (.int (Int32.ofNat n_r0)), .val (.int (Int32.ofNat i)), s8] [(.ref bw)]))
        refine Goes.retA X14 hx hlk rfl Bd.returns rfl (hb hby d1_114) ?_ (by decide) (by decide)
        exact (show Q_rm1 Z n_r0 v_r0 h0 n0 _ T14.heap _ by rw [e14]; exact ⟨bw, sw, rfl, N14, K14, by subst hi; exact (A14).as (fun k hk' => own_tR hc hbv k hk')⟩)
    | succ k ih =>
      intro i b c5 s8 bw TJ lj hJ XJ eJ NJ ZJ KJ AW gw sw n0w hs8 hk hbv hc
      have A0 := A_r0.keep KJ nin0
      have hb5 : b = 0 ∨ b = 1 ∨ b = 2 ∨ b = 3 ∨ b = 4 := by omega
      have hB : ∀ q, q ≤ 4 → own_B v_r0 i % 2 ^ q < 16 := fun q hq => Nat.lt_of_lt_of_le (Nat.mod_lt _ (Nat.pow_pos (by decide))) (Nat.pow_le_pow_right (by decide) hq)
      rcases hb5 with rfl | rfl | rfl | rfl | rfl
      · skip
        show Goes p e below s _ _ _ (TJ.setTop (mkF m 30 #[.val (.ref r0), .val (.ref bw), .val (.int (Int32.ofNat (own_B v_r0 i % 2 ^ 0))), .val (.int (0 : Int32)), .val (.int (Int32.ofNat c5)), .val (.ref r0), .val (.int (Int32.ofNat n_r0)), .val (.int (Int32.ofNat i)), s8] []))
        refine Goes.go (fun _ kst => XS.iload XJ.here hx rfl (hb hby d1_30) rfl  kst) ?_
        show Goes p e below s _ _ _ (TJ.setTop (mkF m 32 #[.val (.ref r0), .val (.ref bw), .val (.int (Int32.ofNat (own_B v_r0 i % 2 ^ 0))), .val (.int (0 : Int32)), .val (.int (Int32.ofNat c5)), .val (.ref r0), .val (.int (Int32.ofNat n_r0)), .val (.int (Int32.ofNat i)), s8] [(.int (Int32.ofNat i))]))
        refine Goes.go (fun _ kst => XS.iload XJ.here hx rfl (hb hby d1_32) rfl  kst) ?_
        show Goes p e below s _ _ _ (TJ.setTop (mkF m 34 #[.val (.ref r0), .val (.ref bw), .val (.int (Int32.ofNat (own_B v_r0 i % 2 ^ 0))), .val (.int (0 : Int32)), .val (.int (Int32.ofNat c5)), .val (.ref r0), .val (.int (Int32.ofNat n_r0)), .val (.int (Int32.ofNat i)), s8] [(.int (Int32.ofNat n_r0)), (.int (Int32.ofNat i))]))
        have hc34_15 : (Int32.ofNat i) < (Int32.ofNat n_r0) := (own_lt (by omega) (by omega)).mpr (by omega)
        refine Goes.go (fun _ kst => XS.icmpNo XJ.here hx rfl (hb hby d1_34) rfl (tlt hc34_15).2.1 kst) ?_
        show Goes p e below s _ _ _ (TJ.setTop (mkF m 37 #[.val (.ref r0), .val (.ref bw), .val (.int (Int32.ofNat (own_B v_r0 i % 2 ^ 0))), .val (.int (0 : Int32)), .val (.int (Int32.ofNat c5)), .val (.ref r0), .val (.int (Int32.ofNat n_r0)), .val (.int (Int32.ofNat i)), s8] []))
        refine Goes.go (fun _ kst => XS.aload XJ.here hx rfl (hb hby d1_37) rfl rfl  kst) ?_
        show Goes p e below s _ _ _ (TJ.setTop (mkF m 39 #[.val (.ref r0), .val (.ref bw), .val (.int (Int32.ofNat (own_B v_r0 i % 2 ^ 0))), .val (.int (0 : Int32)), .val (.int (Int32.ofNat c5)), .val (.ref r0), .val (.int (Int32.ofNat n_r0)), .val (.int (Int32.ofNat i)), s8] [(.ref r0)]))
        refine Goes.go (fun _ kst => XS.iload XJ.here hx rfl (hb hby d1_39) rfl  kst) ?_
        show Goes p e below s _ _ _ (TJ.setTop (mkF m 41 #[.val (.ref r0), .val (.ref bw), .val (.int (Int32.ofNat (own_B v_r0 i % 2 ^ 0))), .val (.int (0 : Int32)), .val (.int (Int32.ofNat c5)), .val (.ref r0), .val (.int (Int32.ofNat n_r0)), .val (.int (Int32.ofNat i)), s8] [(.int (Int32.ofNat i)), (.ref r0)]))
        refine Goes.go (own_ldB XJ hx hZ eJ A0 (i := i) rfl (by omega) (g := (mkF m 41 #[.val (.ref r0), .val (.ref bw), .val (.int (Int32.ofNat (own_B v_r0 i % 2 ^ 0))), .val (.int (0 : Int32)), .val (.int (Int32.ofNat c5)), .val (.ref r0), .val (.int (Int32.ofNat n_r0)), .val (.int (Int32.ofNat i)), s8] [(.int (Int32.ofNat i)), (.ref r0)])) rfl rfl (hb hby d1_41)) ?_
        show Goes p e below s _ _ _ (TJ.setTop (mkF m 42 #[.val (.ref r0), .val (.ref bw), .val (.int (Int32.ofNat (own_B v_r0 i % 2 ^ 0))), .val (.int (0 : Int32)), .val (.int (Int32.ofNat c5)), .val (.ref r0), .val (.int (Int32.ofNat n_r0)), .val (.int (Int32.ofNat i)), s8] [(.int (v_r0 i))]))
        refine Goes.go (fun _ kst => XS.istore XJ.here hx rfl (hb hby d1_42) rfl (l' := #[.val (.ref r0), .val (.ref bw), .val (.int (Int32.ofNat (own_B v_r0 i % 2 ^ 0))), .val (.int (0 : Int32)), .val (.int (Int32.ofNat c5)), .val (.ref r0), .val (.int (Int32.ofNat n_r0)), .val (.int (Int32.ofNat i)), .val (.int (v_r0 i))]) (XS.store1 rfl hs8 rfl) kst) ?_
        show Goes p e below s _ _ _ (TJ.setTop (mkF m 44 #[.val (.ref r0), .val (.ref bw), .val (.int (Int32.ofNat (own_B v_r0 i % 2 ^ 0))), .val (.int (0 : Int32)), .val (.int (Int32.ofNat c5)), .val (.ref r0), .val (.int (Int32.ofNat n_r0)), .val (.int (Int32.ofNat i)), .val (.int (v_r0 i))] []))
        refine Goes.go (fun _ kst => XS.iloadN XJ.here hx rfl (hb hby d1_44) rfl  kst) ?_
        show Goes p e below s _ _ _ (TJ.setTop (mkF m 45 #[.val (.ref r0), .val (.ref bw), .val (.int (Int32.ofNat (own_B v_r0 i % 2 ^ 0))), .val (.int (0 : Int32)), .val (.int (Int32.ofNat c5)), .val (.ref r0), .val (.int (Int32.ofNat n_r0)), .val (.int (Int32.ofNat i)), .val (.int (v_r0 i))] [(.int (Int32.ofNat (own_B v_r0 i % 2 ^ 0)))]))
        refine Goes.go (fun _ kst => XS.bipush XJ.here hx rfl (hb hby d1_45) kst) ?_
        show Goes p e below s _ _ _ (TJ.setTop (mkF m 47 #[.val (.ref r0), .val (.ref bw), .val (.int (Int32.ofNat (own_B v_r0 i % 2 ^ 0))), .val (.int (0 : Int32)), .val (.int (Int32.ofNat c5)), .val (.ref r0), .val (.int (Int32.ofNat n_r0)), .val (.int (Int32.ofNat i)), .val (.int (v_r0 i))] [(.int (8 : Int32)), (.int (Int32.ofNat (own_B v_r0 i % 2 ^ 0)))]))
        refine Goes.go (fun _ kst => XS.ishl XJ.here hx rfl (hb hby d1_47) rfl kst) ?_
        show Goes p e below s _ _ _ (TJ.setTop (mkF m 48 #[.val (.ref r0), .val (.ref bw), .val (.int (Int32.ofNat (own_B v_r0 i % 2 ^ 0))), .val (.int (0 : Int32)), .val (.int (Int32.ofNat c5)), .val (.ref r0), .val (.int (Int32.ofNat n_r0)), .val (.int (Int32.ofNat i)), .val (.int (v_r0 i))] [(.int ((Int32.ofNat (own_B v_r0 i % 2 ^ 0)) <<< ((8 : Int32) &&& 31)))]))
        refine Goes.go (fun _ kst => XS.iload XJ.here hx rfl (hb hby d1_48) rfl  kst) ?_
        show Goes p e below s _ _ _ (TJ.setTop (mkF m 50 #[.val (.ref r0), .val (.ref bw), .val (.int (Int32.ofNat (own_B v_r0 i % 2 ^ 0))), .val (.int (0 : Int32)), .val (.int (Int32.ofNat c5)), .val (.ref r0), .val (.int (Int32.ofNat n_r0)), .val (.int (Int32.ofNat i)), .val (.int (v_r0 i))] [(.int (v_r0 i)), (.int ((Int32.ofNat (own_B v_r0 i % 2 ^ 0)) <<< ((8 : Int32) &&& 31)))]))
        refine Goes.go (fun _ kst => XS.sipush XJ.here hx rfl (hb hby d1_50) kst) ?_
        show Goes p e below s _ _ _ (TJ.setTop (mkF m 53 #[.val (.ref r0), .val (.ref bw), .val (.int (Int32.ofNat (own_B v_r0 i % 2 ^ 0))), .val (.int (0 : Int32)), .val (.int (Int32.ofNat c5)), .val (.ref r0), .val (.int (Int32.ofNat n_r0)), .val (.int (Int32.ofNat i)), .val (.int (v_r0 i))] [(.int (255 : Int32)), (.int (v_r0 i)), (.int ((Int32.ofNat (own_B v_r0 i % 2 ^ 0)) <<< ((8 : Int32) &&& 31)))]))
        refine Goes.go (fun _ kst => XS.iand XJ.here hx rfl (hb hby d1_53) rfl kst) ?_
        show Goes p e below s _ _ _ (TJ.setTop (mkF m 54 #[.val (.ref r0), .val (.ref bw), .val (.int (Int32.ofNat (own_B v_r0 i % 2 ^ 0))), .val (.int (0 : Int32)), .val (.int (Int32.ofNat c5)), .val (.ref r0), .val (.int (Int32.ofNat n_r0)), .val (.int (Int32.ofNat i)), .val (.int (v_r0 i))] [(.int ((v_r0 i) &&& (255 : Int32))), (.int ((Int32.ofNat (own_B v_r0 i % 2 ^ 0)) <<< ((8 : Int32) &&& 31)))]))
        refine Goes.go (fun _ kst => XS.ior XJ.here hx rfl (hb hby d1_54) rfl kst) ?_
        rw [show (((Int32.ofNat (own_B v_r0 i % 2 ^ 0)) <<< ((8 : Int32) &&& 31)) ||| ((v_r0 i) &&& (255 : Int32))) = Int32.ofNat (own_B v_r0 i % 2 ^ 0 * 256 + own_ub (v_r0 i)) from own_acc _ (hB 0 (by decide))]
        rw [own_A 0]
        have hA : own_B v_r0 (i + 1) % 2 ^ (0 + 8) < 4096 := Nat.lt_of_lt_of_le (Nat.mod_lt _ (Nat.pow_pos (by decide))) (by decide)
        show Goes p e below s _ _ _ (TJ.setTop (mkF m 55 #[.val (.ref r0), .val (.ref bw), .val (.int (Int32.ofNat (own_B v_r0 i % 2 ^ 0))), .val (.int (0 : Int32)), .val (.int (Int32.ofNat c5)), .val (.ref r0), .val (.int (Int32.ofNat n_r0)), .val (.int (Int32.ofNat i)), .val (.int (v_r0 i))] [(.int (Int32.ofNat (own_B v_r0 (i + 1) % 2 ^ (0 + 8))))]))
        refine Goes.go (fun _ kst => XS.istoreN XJ.here hx rfl (hb hby d1_55) rfl (l' := #[.val (.ref r0), .val (.ref bw), .val (.int (Int32.ofNat (own_B v_r0 (i + 1) % 2 ^ (0 + 8)))), .val (.int (0 : Int32)), .val (.int (Int32.ofNat c5)), .val (.ref r0), .val (.int (Int32.ofNat n_r0)), .val (.int (Int32.ofNat i)), .val (.int (v_r0 i))]) rfl kst) ?_
        show Goes p e below s _ _ _ (TJ.setTop (mkF m 56 #[.val (.ref r0), .val (.ref bw), .val (.int (Int32.ofNat (own_B v_r0 (i + 1) % 2 ^ (0 + 8)))), .val (.int (0 : Int32)), .val (.int (Int32.ofNat c5)), .val (.ref r0), .val (.int (Int32.ofNat n_r0)), .val (.int (Int32.ofNat i)), .val (.int (v_r0 i))] []))
        refine Goes.go (fun _ kst => XS.iinc XJ.here hx rfl (hb hby d1_56) rfl (l' := #[.val (.ref r0), .val (.ref bw), .val (.int (Int32.ofNat (own_B v_r0 (i + 1) % 2 ^ (0 + 8)))), .val (.int ((0 : Int32) + (8 : Int32))), .val (.int (Int32.ofNat c5)), .val (.ref r0), .val (.int (Int32.ofNat n_r0)), .val (.int (Int32.ofNat i)), .val (.int (v_r0 i))]) rfl kst) ?_
        rw [show ((0 : Int32) + (8 : Int32)) = (8 : Int32) from by decide]
        show Goes p e below s _ _ _ (TJ.setTop (mkF m 59 #[.val (.ref r0), .val (.ref bw), .val (.int (Int32.ofNat (own_B v_r0 (i + 1) % 2 ^ (0 + 8)))), .val (.int (8 : Int32)), .val (.int (Int32.ofNat c5)), .val (.ref r0), .val (.int (Int32.ofNat n_r0)), .val (.int (Int32.ofNat i)), .val (.int (v_r0 i))] []))
        refine Goes.go (fun _ kst => XS.iloadN XJ.here hx rfl (hb hby d1_59) rfl  kst) ?_
        show Goes p e below s _ _ _ (TJ.setTop (mkF m 60 #[.val (.ref r0), .val (.ref bw), .val (.int (Int32.ofNat (own_B v_r0 (i + 1) % 2 ^ (0 + 8)))), .val (.int (8 : Int32)), .val (.int (Int32.ofNat c5)), .val (.ref r0), .val (.int (Int32.ofNat n_r0)), .val (.int (Int32.ofNat i)), .val (.int (v_r0 i))] [(.int (8 : Int32))]))
        refine Goes.go (fun _ kst => XS.iconst XJ.here hx rfl (hb hby d1_60) kst) ?_
        show Goes p e below s _ _ _ (TJ.setTop (mkF m 61 #[.val (.ref r0), .val (.ref bw), .val (.int (Int32.ofNat (own_B v_r0 (i + 1) % 2 ^ (0 + 8)))), .val (.int (8 : Int32)), .val (.int (Int32.ofNat c5)), .val (.ref r0), .val (.int (Int32.ofNat n_r0)), .val (.int (Int32.ofNat i)), .val (.int (v_r0 i))] [(.int (5 : Int32)), (.int (8 : Int32))]))
        have hc61_16 : ¬ ((8 : Int32) < (5 : Int32)) := (by decide)
        refine Goes.go (fun _ kst => XS.icmpNo XJ.here hx rfl (hb hby d1_61) rfl (flt hc61_16).1 kst) ?_
        show Goes p e below s _ _ _ (TJ.setTop (mkF m 64 #[.val (.ref r0), .val (.ref bw), .val (.int (Int32.ofNat (own_B v_r0 (i + 1) % 2 ^ (0 + 8)))), .val (.int (8 : Int32)), .val (.int (Int32.ofNat c5)), .val (.ref r0), .val (.int (Int32.ofNat n_r0)), .val (.int (Int32.ofNat i)), .val (.int (v_r0 i))] []))
        refine Goes.go (fun _ kst => XS.iinc XJ.here hx rfl (hb hby d1_64) rfl (l' := #[.val (.ref r0), .val (.ref bw), .val (.int (Int32.ofNat (own_B v_r0 (i + 1) % 2 ^ (0 + 8)))), .val (.int ((8 : Int32) + (-5 : Int32))), .val (.int (Int32.ofNat c5)), .val (.ref r0), .val (.int (Int32.ofNat n_r0)), .val (.int (Int32.ofNat i)), .val (.int (v_r0 i))]) rfl kst) ?_
        rw [show ((8 : Int32) + (-5 : Int32)) = (3 : Int32) from by decide]
        show Goes p e below s _ _ _ (TJ.setTop (mkF m 67 #[.val (.ref r0), .val (.ref bw), .val (.int (Int32.ofNat (own_B v_r0 (i + 1) % 2 ^ (0 + 8)))), .val (.int (3 : Int32)), .val (.int (Int32.ofNat c5)), .val (.ref r0), .val (.int (Int32.ofNat n_r0)), .val (.int (Int32.ofNat i)), .val (.int (v_r0 i))] []))
        refine Goes.go (fun _ kst => XS.aloadN XJ.here hx rfl (hb hby d1_67) rfl rfl  kst) ?_
        show Goes p e below s _ _ _ (TJ.setTop (mkF m 68 #[.val (.ref r0), .val (.ref bw), .val (.int (Int32.ofNat (own_B v_r0 (i + 1) % 2 ^ (0 + 8)))), .val (.int (3 : Int32)), .val (.int (Int32.ofNat c5)), .val (.ref r0), .val (.int (Int32.ofNat n_r0)), .val (.int (Int32.ofNat i)), .val (.int (v_r0 i))] [(.ref bw)]))
        refine Goes.go (fun _ kst => XS.iload XJ.here hx rfl (hb hby d1_68) rfl  kst) ?_
        show Goes p e below s _ _ _ (TJ.setTop (mkF m 70 #[.val (.ref r0), .val (.ref bw), .val (.int (Int32.ofNat (own_B v_r0 (i + 1) % 2 ^ (0 + 8)))), .val (.int (3 : Int32)), .val (.int (Int32.ofNat c5)), .val (.ref r0), .val (.int (Int32.ofNat n_r0)), .val (.int (Int32.ofNat i)), .val (.int (v_r0 i))] [(.int (Int32.ofNat c5)), (.ref bw)]))
        refine Goes.go (fun _ kst => XS.iinc XJ.here hx rfl (hb hby d1_70) rfl (l' := #[.val (.ref r0), .val (.ref bw), .val (.int (Int32.ofNat (own_B v_r0 (i + 1) % 2 ^ (0 + 8)))), .val (.int (3 : Int32)), .val (.int ((Int32.ofNat c5) + (1 : Int32))), .val (.ref r0), .val (.int (Int32.ofNat n_r0)), .val (.int (Int32.ofNat i)), .val (.int (v_r0 i))]) rfl kst) ?_
        rw [show (Int32.ofNat c5 + (1 : Int32)) = Int32.ofNat (c5 + 1) from own_add (n := 1) (by omega)]
        show Goes p e below s _ _ _ (TJ.setTop (mkF m 73 #[.val (.ref r0), .val (.ref bw), .val (.int (Int32.ofNat (own_B v_r0 (i + 1) % 2 ^ (0 + 8)))), .val (.int (3 : Int32)), .val (.int (Int32.ofNat (c5 + 1))), .val (.ref r0), .val (.int (Int32.ofNat n_r0)), .val (.int (Int32.ofNat i)), .val (.int (v_r0 i))] [(.int (Int32.ofNat c5)), (.ref bw)]))
        refine Goes.go (fun _ kst => XS.iloadN XJ.here hx rfl (hb hby d1_73) rfl  kst) ?_
        show Goes p e below s _ _ _ (TJ.setTop (mkF m 74 #[.val (.ref r0), .val (.ref bw), .val (.int (Int32.ofNat (own_B v_r0 (i + 1) % 2 ^ (0 + 8)))), .val (.int (3 : Int32)), .val (.int (Int32.ofNat (c5 + 1))), .val (.ref r0), .val (.int (Int32.ofNat n_r0)), .val (.int (Int32.ofNat i)), .val (.int (v_r0 i))] [(.int (Int32.ofNat (own_B v_r0 (i + 1) % 2 ^ (0 + 8)))), (.int (Int32.ofNat c5)), (.ref bw)]))
        refine Goes.go (fun _ kst => XS.iloadN XJ.here hx rfl (hb hby d1_74) rfl  kst) ?_
        show Goes p e below s _ _ _ (TJ.setTop (mkF m 75 #[.val (.ref r0), .val (.ref bw), .val (.int (Int32.ofNat (own_B v_r0 (i + 1) % 2 ^ (0 + 8)))), .val (.int (3 : Int32)), .val (.int (Int32.ofNat (c5 + 1))), .val (.ref r0), .val (.int (Int32.ofNat n_r0)), .val (.int (Int32.ofNat i)), .val (.int (v_r0 i))] [(.int (3 : Int32)), (.int (Int32.ofNat (own_B v_r0 (i + 1) % 2 ^ (0 + 8)))), (.int (Int32.ofNat c5)), (.ref bw)]))
        refine Goes.go (fun _ kst => XS.iushr XJ.here hx rfl (hb hby d1_75) rfl kst) ?_
        show Goes p e below s _ _ _ (TJ.setTop (mkF m 76 #[.val (.ref r0), .val (.ref bw), .val (.int (Int32.ofNat (own_B v_r0 (i + 1) % 2 ^ (0 + 8)))), .val (.int (3 : Int32)), .val (.int (Int32.ofNat (c5 + 1))), .val (.ref r0), .val (.int (Int32.ofNat n_r0)), .val (.int (Int32.ofNat i)), .val (.int (v_r0 i))] [(.int (((Int32.ofNat (own_B v_r0 (i + 1) % 2 ^ (0 + 8))).toUInt32 >>> ((3 : Int32) &&& 31).toUInt32).toInt32)), (.int (Int32.ofNat c5)), (.ref bw)]))
        refine Goes.go (fun _ kst => XS.bipush XJ.here hx rfl (hb hby d1_76) kst) ?_
        show Goes p e below s _ _ _ (TJ.setTop (mkF m 78 #[.val (.ref r0), .val (.ref bw), .val (.int (Int32.ofNat (own_B v_r0 (i + 1) % 2 ^ (0 + 8)))), .val (.int (3 : Int32)), .val (.int (Int32.ofNat (c5 + 1))), .val (.ref r0), .val (.int (Int32.ofNat n_r0)), .val (.int (Int32.ofNat i)), .val (.int (v_r0 i))] [(.int (31 : Int32)), (.int (((Int32.ofNat (own_B v_r0 (i + 1) % 2 ^ (0 + 8))).toUInt32 >>> ((3 : Int32) &&& 31).toUInt32).toInt32)), (.int (Int32.ofNat c5)), (.ref bw)]))
        refine Goes.go (fun _ kst => XS.iand XJ.here hx rfl (hb hby d1_78) rfl kst) ?_
        rw [show ((((Int32.ofNat (own_B v_r0 (i + 1) % 2 ^ (0 + 8))).toUInt32 >>> ((3 : Int32) &&& 31).toUInt32).toInt32) &&& (31 : Int32)) = (Int32.ofNat (own_B v_r0 (i + 1) % 2 ^ (0 + 8) / 2 ^ 3 % 32)) from own_sh hA (by decide) (by decide)]
        show Goes p e below s _ _ _ (TJ.setTop (mkF m 79 #[.val (.ref r0), .val (.ref bw), .val (.int (Int32.ofNat (own_B v_r0 (i + 1) % 2 ^ (0 + 8)))), .val (.int (3 : Int32)), .val (.int (Int32.ofNat (c5 + 1))), .val (.ref r0), .val (.int (Int32.ofNat n_r0)), .val (.int (Int32.ofNat i)), .val (.int (v_r0 i))] [(.int (Int32.ofNat (own_B v_r0 (i + 1) % 2 ^ (0 + 8) / 2 ^ 3 % 32))), (.int (Int32.ofNat c5)), (.ref bw)]))
        obtain ⟨T17, h17, X17, e17, W17, A17, st17⟩ := own_stI XJ hx hZ eJ AW (i := c5) rfl (by omega) (g := (mkF m 79 #[.val (.ref r0), .val (.ref bw), .val (.int (Int32.ofNat (own_B v_r0 (i + 1) % 2 ^ (0 + 8)))), .val (.int (3 : Int32)), .val (.int (Int32.ofNat (c5 + 1))), .val (.ref r0), .val (.int (Int32.ofNat n_r0)), .val (.int (Int32.ofNat i)), .val (.int (v_r0 i))] [(.int (Int32.ofNat (own_B v_r0 (i + 1) % 2 ^ (0 + 8) / 2 ^ 3 % 32))), (.int (Int32.ofNat c5)), (.ref bw)])) rfl rfl (hb hby d1_79)
        have N17 := Fr.snoc X17 NJ gw
        have Z17 := Nat.le_trans ZJ (Keep.of_wr W17).1
        have K17 := Keep.wr KJ W17 (Or.inr sw)
        refine Goes.go st17 ?_
        show Goes p e below s _ _ _ (T17.setTop (mkF m 80 #[.val (.ref r0), .val (.ref bw), .val (.int (Int32.ofNat (own_B v_r0 (i + 1) % 2 ^ (0 + 8)))), .val (.int (3 : Int32)), .val (.int (Int32.ofNat (c5 + 1))), .val (.ref r0), .val (.int (Int32.ofNat n_r0)), .val (.int (Int32.ofNat i)), .val (.int (v_r0 i))] []))
        refine Goes.go (fun _ kst => XS.goto X17.here hx rfl (pc0 := 80) (pc' := 59) rfl (hb hby d1_80) (by decide) (by decide) kst) ?_
        show Goes p e below s _ _ _ (T17.setTop (mkF m 59 #[.val (.ref r0), .val (.ref bw), .val (.int (Int32.ofNat (own_B v_r0 (i + 1) % 2 ^ (0 + 8)))), .val (.int (3 : Int32)), .val (.int (Int32.ofNat (c5 + 1))), .val (.ref r0), .val (.int (Int32.ofNat n_r0)), .val (.int (Int32.ofNat i)), .val (.int (v_r0 i))] []))
        refine Goes.go (fun _ kst => XS.iloadN X17.here hx rfl (hb hby d1_59) rfl  kst) ?_
        show Goes p e below s _ _ _ (T17.setTop (mkF m 60 #[.val (.ref r0), .val (.ref bw), .val (.int (Int32.ofNat (own_B v_r0 (i + 1) % 2 ^ (0 + 8)))), .val (.int (3 : Int32)), .val (.int (Int32.ofNat (c5 + 1))), .val (.ref r0), .val (.int (Int32.ofNat n_r0)), .val (.int (Int32.ofNat i)), .val (.int (v_r0 i))] [(.int (3 : Int32))]))
        refine Goes.go (fun _ kst => XS.iconst X17.here hx rfl (hb hby d1_60) kst) ?_
        show Goes p e below s _ _ _ (T17.setTop (mkF m 61 #[.val (.ref r0), .val (.ref bw), .val (.int (Int32.ofNat (own_B v_r0 (i + 1) % 2 ^ (0 + 8)))), .val (.int (3 : Int32)), .val (.int (Int32.ofNat (c5 + 1))), .val (.ref r0), .val (.int (Int32.ofNat n_r0)), .val (.int (Int32.ofNat i)), .val (.int (v_r0 i))] [(.int (5 : Int32)), (.int (3 : Int32))]))
        have hc61_18 : (3 : Int32) < (5 : Int32) := (by decide)
        refine Goes.go (fun _ kst => XS.icmpYes X17.here hx rfl (pc0 := 61) (pc' := 83) rfl (hb hby d1_61) rfl (tlt hc61_18).1 (by decide) (by decide) kst) ?_
        show Goes p e below s _ _ _ (T17.setTop (mkF m 83 #[.val (.ref r0), .val (.ref bw), .val (.int (Int32.ofNat (own_B v_r0 (i + 1) % 2 ^ (0 + 8)))), .val (.int (3 : Int32)), .val (.int (Int32.ofNat (c5 + 1))), .val (.ref r0), .val (.int (Int32.ofNat n_r0)), .val (.int (Int32.ofNat i)), .val (.int (v_r0 i))] []))
        refine Goes.go (fun _ kst => XS.iloadN X17.here hx rfl (hb hby d1_83) rfl  kst) ?_
        show Goes p e below s _ _ _ (T17.setTop (mkF m 84 #[.val (.ref r0), .val (.ref bw), .val (.int (Int32.ofNat (own_B v_r0 (i + 1) % 2 ^ (0 + 8)))), .val (.int (3 : Int32)), .val (.int (Int32.ofNat (c5 + 1))), .val (.ref r0), .val (.int (Int32.ofNat n_r0)), .val (.int (Int32.ofNat i)), .val (.int (v_r0 i))] [(.int (Int32.ofNat (own_B v_r0 (i + 1) % 2 ^ (0 + 8))))]))
        refine Goes.go (fun _ kst => XS.iconst X17.here hx rfl (hb hby d1_84) kst) ?_
        show Goes p e below s _ _ _ (T17.setTop (mkF m 85 #[.val (.ref r0), .val (.ref bw), .val (.int (Int32.ofNat (own_B v_r0 (i + 1) % 2 ^ (0 + 8)))), .val (.int (3 : Int32)), .val (.int (Int32.ofNat (c5 + 1))), .val (.ref r0), .val (.int (Int32.ofNat n_r0)), .val (.int (Int32.ofNat i)), .val (.int (v_r0 i))] [(.int (1 : Int32)), (.int (Int32.ofNat (own_B v_r0 (i + 1) % 2 ^ (0 + 8))))]))
        refine Goes.go (fun _ kst => XS.iloadN X17.here hx rfl (hb hby d1_85) rfl  kst) ?_
        show Goes p e below s _ _ _ (T17.setTop (mkF m 86 #[.val (.ref r0), .val (.ref bw), .val (.int (Int32.ofNat (own_B v_r0 (i + 1) % 2 ^ (0 + 8)))), .val (.int (3 : Int32)), .val (.int (Int32.ofNat (c5 + 1))), .val (.ref r0), .val (.int (Int32.ofNat n_r0)), .val (.int (Int32.ofNat i)), .val (.int (v_r0 i))] [(.int (3 : Int32)), (.int (1 : Int32)), (.int (Int32.ofNat (own_B v_r0 (i + 1) % 2 ^ (0 + 8))))]))
        refine Goes.go (fun _ kst => XS.ishl X17.here hx rfl (hb hby d1_86) rfl kst) ?_
        show Goes p e below s _ _ _ (T17.setTop (mkF m 87 #[.val (.ref r0), .val (.ref bw), .val (.int (Int32.ofNat (own_B v_r0 (i + 1) % 2 ^ (0 + 8)))), .val (.int (3 : Int32)), .val (.int (Int32.ofNat (c5 + 1))), .val (.ref r0), .val (.int (Int32.ofNat n_r0)), .val (.int (Int32.ofNat i)), .val (.int (v_r0 i))] [(.int ((1 : Int32) <<< ((3 : Int32) &&& 31))), (.int (Int32.ofNat (own_B v_r0 (i + 1) % 2 ^ (0 + 8))))]))
        refine Goes.go (fun _ kst => XS.iconst X17.here hx rfl (hb hby d1_87) kst) ?_
        show Goes p e below s _ _ _ (T17.setTop (mkF m 88 #[.val (.ref r0), .val (.ref bw), .val (.int (Int32.ofNat (own_B v_r0 (i + 1) % 2 ^ (0 + 8)))), .val (.int (3 : Int32)), .val (.int (Int32.ofNat (c5 + 1))), .val (.ref r0), .val (.int (Int32.ofNat n_r0)), .val (.int (Int32.ofNat i)), .val (.int (v_r0 i))] [(.int (1 : Int32)), (.int ((1 : Int32) <<< ((3 : Int32) &&& 31))), (.int (Int32.ofNat (own_B v_r0 (i + 1) % 2 ^ (0 + 8))))]))
        refine Goes.go (fun _ kst => XS.isub X17.here hx rfl (hb hby d1_88) rfl kst) ?_
        show Goes p e below s _ _ _ (T17.setTop (mkF m 89 #[.val (.ref r0), .val (.ref bw), .val (.int (Int32.ofNat (own_B v_r0 (i + 1) % 2 ^ (0 + 8)))), .val (.int (3 : Int32)), .val (.int (Int32.ofNat (c5 + 1))), .val (.ref r0), .val (.int (Int32.ofNat n_r0)), .val (.int (Int32.ofNat i)), .val (.int (v_r0 i))] [(.int (((1 : Int32) <<< ((3 : Int32) &&& 31)) - (1 : Int32))), (.int (Int32.ofNat (own_B v_r0 (i + 1) % 2 ^ (0 + 8))))]))
        refine Goes.go (fun _ kst => XS.iand X17.here hx rfl (hb hby d1_89) rfl kst) ?_
        rw [show ((Int32.ofNat (own_B v_r0 (i + 1) % 2 ^ (0 + 8))) &&& (((1 : Int32) <<< ((3 : Int32) &&& 31)) - (1 : Int32))) = (Int32.ofNat (own_B v_r0 (i + 1) % 2 ^ (0 + 8) % 2 ^ 3)) from own_mk hA (by decide) (by decide)]
        rw [own_mm (b := 0) (k := 3) (by decide)]
        show Goes p e below s _ _ _ (T17.setTop (mkF m 90 #[.val (.ref r0), .val (.ref bw), .val (.int (Int32.ofNat (own_B v_r0 (i + 1) % 2 ^ (0 + 8)))), .val (.int (3 : Int32)), .val (.int (Int32.ofNat (c5 + 1))), .val (.ref r0), .val (.int (Int32.ofNat n_r0)), .val (.int (Int32.ofNat i)), .val (.int (v_r0 i))] [(.int (Int32.ofNat (own_B v_r0 (i + 1) % 2 ^ 3)))]))
        refine Goes.go (fun _ kst => XS.istoreN X17.here hx rfl (hb hby d1_90) rfl (l' := #[.val (.ref r0), .val (.ref bw), .val (.int (Int32.ofNat (own_B v_r0 (i + 1) % 2 ^ 3))), .val (.int (3 : Int32)), .val (.int (Int32.ofNat (c5 + 1))), .val (.ref r0), .val (.int (Int32.ofNat n_r0)), .val (.int (Int32.ofNat i)), .val (.int (v_r0 i))]) rfl kst) ?_
        show Goes p e below s _ _ _ (T17.setTop (mkF m 91 #[.val (.ref r0), .val (.ref bw), .val (.int (Int32.ofNat (own_B v_r0 (i + 1) % 2 ^ 3))), .val (.int (3 : Int32)), .val (.int (Int32.ofNat (c5 + 1))), .val (.ref r0), .val (.int (Int32.ofNat n_r0)), .val (.int (Int32.ofNat i)), .val (.int (v_r0 i))] []))
        refine Goes.go (fun _ kst => XS.iinc X17.here hx rfl (hb hby d1_91) rfl (l' := #[.val (.ref r0), .val (.ref bw), .val (.int (Int32.ofNat (own_B v_r0 (i + 1) % 2 ^ 3))), .val (.int (3 : Int32)), .val (.int (Int32.ofNat (c5 + 1))), .val (.ref r0), .val (.int (Int32.ofNat n_r0)), .val (.int ((Int32.ofNat i) + (1 : Int32))), .val (.int (v_r0 i))]) rfl kst) ?_
        rw [show (Int32.ofNat i + (1 : Int32)) = Int32.ofNat (i + 1) from own_add (n := 1) (by omega)]
        show Goes p e below s _ _ _ (T17.setTop (mkF m 94 #[.val (.ref r0), .val (.ref bw), .val (.int (Int32.ofNat (own_B v_r0 (i + 1) % 2 ^ 3))), .val (.int (3 : Int32)), .val (.int (Int32.ofNat (c5 + 1))), .val (.ref r0), .val (.int (Int32.ofNat n_r0)), .val (.int (Int32.ofNat (i + 1))), .val (.int (v_r0 i))] []))
        refine Goes.go (fun _ kst => XS.goto X17.here hx rfl (pc0 := 94) (pc' := 30) rfl (hb hby d1_94) (by decide) (by decide) kst) ?_
        exact ih (i + 1) 3 (c5 + 1) _ bw X17 e17 N17 Z17 K17 ((A17).as (fun k _ => own_F1 (b := 0) hc hbv (by omega) k)) gw sw n0w (One.val rfl) (by omega) (by omega) (by omega)
      · skip
        show Goes p e below s _ _ _ (TJ.setTop (mkF m 30 #[.val (.ref r0), .val (.ref bw), .val (.int (Int32.ofNat (own_B v_r0 i % 2 ^ 1))), .val (.int (1 : Int32)), .val (.int (Int32.ofNat c5)), .val (.ref r0), .val (.int (Int32.ofNat n_r0)), .val (.int (Int32.ofNat i)), s8] []))
        refine Goes.go (fun _ kst => XS.iload XJ.here hx rfl (hb hby d1_30) rfl  kst) ?_
        show Goes p e below s _ _ _ (TJ.setTop (mkF m 32 #[.val (.ref r0), .val (.ref bw), .val (.int (Int32.ofNat (own_B v_r0 i % 2 ^ 1))), .val (.int (1 : Int32)), .val (.int (Int32.ofNat c5)), .val (.ref r0), .val (.int (Int32.ofNat n_r0)), .val (.int (Int32.ofNat i)), s8] [(.int (Int32.ofNat i))]))
        refine Goes.go (fun _ kst => XS.iload XJ.here hx rfl (hb hby d1_32) rfl  kst) ?_
        show Goes p e below s _ _ _ (TJ.setTop (mkF m 34 #[.val (.ref r0), .val (.ref bw), .val (.int (Int32.ofNat (own_B v_r0 i % 2 ^ 1))), .val (.int (1 : Int32)), .val (.int (Int32.ofNat c5)), .val (.ref r0), .val (.int (Int32.ofNat n_r0)), .val (.int (Int32.ofNat i)), s8] [(.int (Int32.ofNat n_r0)), (.int (Int32.ofNat i))]))
        have hc34_19 : (Int32.ofNat i) < (Int32.ofNat n_r0) := (own_lt (by omega) (by omega)).mpr (by omega)
        refine Goes.go (fun _ kst => XS.icmpNo XJ.here hx rfl (hb hby d1_34) rfl (tlt hc34_19).2.1 kst) ?_
        show Goes p e below s _ _ _ (TJ.setTop (mkF m 37 #[.val (.ref r0), .val (.ref bw), .val (.int (Int32.ofNat (own_B v_r0 i % 2 ^ 1))), .val (.int (1 : Int32)), .val (.int (Int32.ofNat c5)), .val (.ref r0), .val (.int (Int32.ofNat n_r0)), .val (.int (Int32.ofNat i)), s8] []))
        refine Goes.go (fun _ kst => XS.aload XJ.here hx rfl (hb hby d1_37) rfl rfl  kst) ?_
        show Goes p e below s _ _ _ (TJ.setTop (mkF m 39 #[.val (.ref r0), .val (.ref bw), .val (.int (Int32.ofNat (own_B v_r0 i % 2 ^ 1))), .val (.int (1 : Int32)), .val (.int (Int32.ofNat c5)), .val (.ref r0), .val (.int (Int32.ofNat n_r0)), .val (.int (Int32.ofNat i)), s8] [(.ref r0)]))
        refine Goes.go (fun _ kst => XS.iload XJ.here hx rfl (hb hby d1_39) rfl  kst) ?_
        show Goes p e below s _ _ _ (TJ.setTop (mkF m 41 #[.val (.ref r0), .val (.ref bw), .val (.int (Int32.ofNat (own_B v_r0 i % 2 ^ 1))), .val (.int (1 : Int32)), .val (.int (Int32.ofNat c5)), .val (.ref r0), .val (.int (Int32.ofNat n_r0)), .val (.int (Int32.ofNat i)), s8] [(.int (Int32.ofNat i)), (.ref r0)]))
        refine Goes.go (own_ldB XJ hx hZ eJ A0 (i := i) rfl (by omega) (g := (mkF m 41 #[.val (.ref r0), .val (.ref bw), .val (.int (Int32.ofNat (own_B v_r0 i % 2 ^ 1))), .val (.int (1 : Int32)), .val (.int (Int32.ofNat c5)), .val (.ref r0), .val (.int (Int32.ofNat n_r0)), .val (.int (Int32.ofNat i)), s8] [(.int (Int32.ofNat i)), (.ref r0)])) rfl rfl (hb hby d1_41)) ?_
        show Goes p e below s _ _ _ (TJ.setTop (mkF m 42 #[.val (.ref r0), .val (.ref bw), .val (.int (Int32.ofNat (own_B v_r0 i % 2 ^ 1))), .val (.int (1 : Int32)), .val (.int (Int32.ofNat c5)), .val (.ref r0), .val (.int (Int32.ofNat n_r0)), .val (.int (Int32.ofNat i)), s8] [(.int (v_r0 i))]))
        refine Goes.go (fun _ kst => XS.istore XJ.here hx rfl (hb hby d1_42) rfl (l' := #[.val (.ref r0), .val (.ref bw), .val (.int (Int32.ofNat (own_B v_r0 i % 2 ^ 1))), .val (.int (1 : Int32)), .val (.int (Int32.ofNat c5)), .val (.ref r0), .val (.int (Int32.ofNat n_r0)), .val (.int (Int32.ofNat i)), .val (.int (v_r0 i))]) (XS.store1 rfl hs8 rfl) kst) ?_
        show Goes p e below s _ _ _ (TJ.setTop (mkF m 44 #[.val (.ref r0), .val (.ref bw), .val (.int (Int32.ofNat (own_B v_r0 i % 2 ^ 1))), .val (.int (1 : Int32)), .val (.int (Int32.ofNat c5)), .val (.ref r0), .val (.int (Int32.ofNat n_r0)), .val (.int (Int32.ofNat i)), .val (.int (v_r0 i))] []))
        refine Goes.go (fun _ kst => XS.iloadN XJ.here hx rfl (hb hby d1_44) rfl  kst) ?_
        show Goes p e below s _ _ _ (TJ.setTop (mkF m 45 #[.val (.ref r0), .val (.ref bw), .val (.int (Int32.ofNat (own_B v_r0 i % 2 ^ 1))), .val (.int (1 : Int32)), .val (.int (Int32.ofNat c5)), .val (.ref r0), .val (.int (Int32.ofNat n_r0)), .val (.int (Int32.ofNat i)), .val (.int (v_r0 i))] [(.int (Int32.ofNat (own_B v_r0 i % 2 ^ 1)))]))
        refine Goes.go (fun _ kst => XS.bipush XJ.here hx rfl (hb hby d1_45) kst) ?_
        show Goes p e below s _ _ _ (TJ.setTop (mkF m 47 #[.val (.ref r0), .val (.ref bw), .val (.int (Int32.ofNat (own_B v_r0 i % 2 ^ 1))), .val (.int (1 : Int32)), .val (.int (Int32.ofNat c5)), .val (.ref r0), .val (.int (Int32.ofNat n_r0)), .val (.int (Int32.ofNat i)), .val (.int (v_r0 i))] [(.int (8 : Int32)), (.int (Int32.ofNat (own_B v_r0 i % 2 ^ 1)))]))
        refine Goes.go (fun _ kst => XS.ishl XJ.here hx rfl (hb hby d1_47) rfl kst) ?_
        show Goes p e below s _ _ _ (TJ.setTop (mkF m 48 #[.val (.ref r0), .val (.ref bw), .val (.int (Int32.ofNat (own_B v_r0 i % 2 ^ 1))), .val (.int (1 : Int32)), .val (.int (Int32.ofNat c5)), .val (.ref r0), .val (.int (Int32.ofNat n_r0)), .val (.int (Int32.ofNat i)), .val (.int (v_r0 i))] [(.int ((Int32.ofNat (own_B v_r0 i % 2 ^ 1)) <<< ((8 : Int32) &&& 31)))]))
        refine Goes.go (fun _ kst => XS.iload XJ.here hx rfl (hb hby d1_48) rfl  kst) ?_
        show Goes p e below s _ _ _ (TJ.setTop (mkF m 50 #[.val (.ref r0), .val (.ref bw), .val (.int (Int32.ofNat (own_B v_r0 i % 2 ^ 1))), .val (.int (1 : Int32)), .val (.int (Int32.ofNat c5)), .val (.ref r0), .val (.int (Int32.ofNat n_r0)), .val (.int (Int32.ofNat i)), .val (.int (v_r0 i))] [(.int (v_r0 i)), (.int ((Int32.ofNat (own_B v_r0 i % 2 ^ 1)) <<< ((8 : Int32) &&& 31)))]))
        refine Goes.go (fun _ kst => XS.sipush XJ.here hx rfl (hb hby d1_50) kst) ?_
        show Goes p e below s _ _ _ (TJ.setTop (mkF m 53 #[.val (.ref r0), .val (.ref bw), .val (.int (Int32.ofNat (own_B v_r0 i % 2 ^ 1))), .val (.int (1 : Int32)), .val (.int (Int32.ofNat c5)), .val (.ref r0), .val (.int (Int32.ofNat n_r0)), .val (.int (Int32.ofNat i)), .val (.int (v_r0 i))] [(.int (255 : Int32)), (.int (v_r0 i)), (.int ((Int32.ofNat (own_B v_r0 i % 2 ^ 1)) <<< ((8 : Int32) &&& 31)))]))
        refine Goes.go (fun _ kst => XS.iand XJ.here hx rfl (hb hby d1_53) rfl kst) ?_
        show Goes p e below s _ _ _ (TJ.setTop (mkF m 54 #[.val (.ref r0), .val (.ref bw), .val (.int (Int32.ofNat (own_B v_r0 i % 2 ^ 1))), .val (.int (1 : Int32)), .val (.int (Int32.ofNat c5)), .val (.ref r0), .val (.int (Int32.ofNat n_r0)), .val (.int (Int32.ofNat i)), .val (.int (v_r0 i))] [(.int ((v_r0 i) &&& (255 : Int32))), (.int ((Int32.ofNat (own_B v_r0 i % 2 ^ 1)) <<< ((8 : Int32) &&& 31)))]))
        refine Goes.go (fun _ kst => XS.ior XJ.here hx rfl (hb hby d1_54) rfl kst) ?_
        rw [show (((Int32.ofNat (own_B v_r0 i % 2 ^ 1)) <<< ((8 : Int32) &&& 31)) ||| ((v_r0 i) &&& (255 : Int32))) = Int32.ofNat (own_B v_r0 i % 2 ^ 1 * 256 + own_ub (v_r0 i)) from own_acc _ (hB 1 (by decide))]
        rw [own_A 1]
        have hA : own_B v_r0 (i + 1) % 2 ^ (1 + 8) < 4096 := Nat.lt_of_lt_of_le (Nat.mod_lt _ (Nat.pow_pos (by decide))) (by decide)
        show Goes p e below s _ _ _ (TJ.setTop (mkF m 55 #[.val (.ref r0), .val (.ref bw), .val (.int (Int32.ofNat (own_B v_r0 i % 2 ^ 1))), .val (.int (1 : Int32)), .val (.int (Int32.ofNat c5)), .val (.ref r0), .val (.int (Int32.ofNat n_r0)), .val (.int (Int32.ofNat i)), .val (.int (v_r0 i))] [(.int (Int32.ofNat (own_B v_r0 (i + 1) % 2 ^ (1 + 8))))]))
        refine Goes.go (fun _ kst => XS.istoreN XJ.here hx rfl (hb hby d1_55) rfl (l' := #[.val (.ref r0), .val (.ref bw), .val (.int (Int32.ofNat (own_B v_r0 (i + 1) % 2 ^ (1 + 8)))), .val (.int (1 : Int32)), .val (.int (Int32.ofNat c5)), .val (.ref r0), .val (.int (Int32.ofNat n_r0)), .val (.int (Int32.ofNat i)), .val (.int (v_r0 i))]) rfl kst) ?_
        show Goes p e below s _ _ _ (TJ.setTop (mkF m 56 #[.val (.ref r0), .val (.ref bw), .val (.int (Int32.ofNat (own_B v_r0 (i + 1) % 2 ^ (1 + 8)))), .val (.int (1 : Int32)), .val (.int (Int32.ofNat c5)), .val (.ref r0), .val (.int (Int32.ofNat n_r0)), .val (.int (Int32.ofNat i)), .val (.int (v_r0 i))] []))
        refine Goes.go (fun _ kst => XS.iinc XJ.here hx rfl (hb hby d1_56) rfl (l' := #[.val (.ref r0), .val (.ref bw), .val (.int (Int32.ofNat (own_B v_r0 (i + 1) % 2 ^ (1 + 8)))), .val (.int ((1 : Int32) + (8 : Int32))), .val (.int (Int32.ofNat c5)), .val (.ref r0), .val (.int (Int32.ofNat n_r0)), .val (.int (Int32.ofNat i)), .val (.int (v_r0 i))]) rfl kst) ?_
        rw [show ((1 : Int32) + (8 : Int32)) = (9 : Int32) from by decide]
        show Goes p e below s _ _ _ (TJ.setTop (mkF m 59 #[.val (.ref r0), .val (.ref bw), .val (.int (Int32.ofNat (own_B v_r0 (i + 1) % 2 ^ (1 + 8)))), .val (.int (9 : Int32)), .val (.int (Int32.ofNat c5)), .val (.ref r0), .val (.int (Int32.ofNat n_r0)), .val (.int (Int32.ofNat i)), .val (.int (v_r0 i))] []))
        refine Goes.go (fun _ kst => XS.iloadN XJ.here hx rfl (hb hby d1_59) rfl  kst) ?_
        show Goes p e below s _ _ _ (TJ.setTop (mkF m 60 #[.val (.ref r0), .val (.ref bw), .val (.int (Int32.ofNat (own_B v_r0 (i + 1) % 2 ^ (1 + 8)))), .val (.int (9 : Int32)), .val (.int (Int32.ofNat c5)), .val (.ref r0), .val (.int (Int32.ofNat n_r0)), .val (.int (Int32.ofNat i)), .val (.int (v_r0 i))] [(.int (9 : Int32))]))
        refine Goes.go (fun _ kst => XS.iconst XJ.here hx rfl (hb hby d1_60) kst) ?_
        show Goes p e below s _ _ _ (TJ.setTop (mkF m 61 #[.val (.ref r0), .val (.ref bw), .val (.int (Int32.ofNat (own_B v_r0 (i + 1) % 2 ^ (1 + 8)))), .val (.int (9 : Int32)), .val (.int (Int32.ofNat c5)), .val (.ref r0), .val (.int (Int32.ofNat n_r0)), .val (.int (Int32.ofNat i)), .val (.int (v_r0 i))] [(.int (5 : Int32)), (.int (9 : Int32))]))
        have hc61_20 : ¬ ((9 : Int32) < (5 : Int32)) := (by decide)
        refine Goes.go (fun _ kst => XS.icmpNo XJ.here hx rfl (hb hby d1_61) rfl (flt hc61_20).1 kst) ?_
        show Goes p e below s _ _ _ (TJ.setTop (mkF m 64 #[.val (.ref r0), .val (.ref bw), .val (.int (Int32.ofNat (own_B v_r0 (i + 1) % 2 ^ (1 + 8)))), .val (.int (9 : Int32)), .val (.int (Int32.ofNat c5)), .val (.ref r0), .val (.int (Int32.ofNat n_r0)), .val (.int (Int32.ofNat i)), .val (.int (v_r0 i))] []))
        refine Goes.go (fun _ kst => XS.iinc XJ.here hx rfl (hb hby d1_64) rfl (l' := #[.val (.ref r0), .val (.ref bw), .val (.int (Int32.ofNat (own_B v_r0 (i + 1) % 2 ^ (1 + 8)))), .val (.int ((9 : Int32) + (-5 : Int32))), .val (.int (Int32.ofNat c5)), .val (.ref r0), .val (.int (Int32.ofNat n_r0)), .val (.int (Int32.ofNat i)), .val (.int (v_r0 i))]) rfl kst) ?_
        rw [show ((9 : Int32) + (-5 : Int32)) = (4 : Int32) from by decide]
        show Goes p e below s _ _ _ (TJ.setTop (mkF m 67 #[.val (.ref r0), .val (.ref bw), .val (.int (Int32.ofNat (own_B v_r0 (i + 1) % 2 ^ (1 + 8)))), .val (.int (4 : Int32)), .val (.int (Int32.ofNat c5)), .val (.ref r0), .val (.int (Int32.ofNat n_r0)), .val (.int (Int32.ofNat i)), .val (.int (v_r0 i))] []))
        refine Goes.go (fun _ kst => XS.aloadN XJ.here hx rfl (hb hby d1_67) rfl rfl  kst) ?_
        show Goes p e below s _ _ _ (TJ.setTop (mkF m 68 #[.val (.ref r0), .val (.ref bw), .val (.int (Int32.ofNat (own_B v_r0 (i + 1) % 2 ^ (1 + 8)))), .val (.int (4 : Int32)), .val (.int (Int32.ofNat c5)), .val (.ref r0), .val (.int (Int32.ofNat n_r0)), .val (.int (Int32.ofNat i)), .val (.int (v_r0 i))] [(.ref bw)]))
        refine Goes.go (fun _ kst => XS.iload XJ.here hx rfl (hb hby d1_68) rfl  kst) ?_
        show Goes p e below s _ _ _ (TJ.setTop (mkF m 70 #[.val (.ref r0), .val (.ref bw), .val (.int (Int32.ofNat (own_B v_r0 (i + 1) % 2 ^ (1 + 8)))), .val (.int (4 : Int32)), .val (.int (Int32.ofNat c5)), .val (.ref r0), .val (.int (Int32.ofNat n_r0)), .val (.int (Int32.ofNat i)), .val (.int (v_r0 i))] [(.int (Int32.ofNat c5)), (.ref bw)]))
        refine Goes.go (fun _ kst => XS.iinc XJ.here hx rfl (hb hby d1_70) rfl (l' := #[.val (.ref r0), .val (.ref bw), .val (.int (Int32.ofNat (own_B v_r0 (i + 1) % 2 ^ (1 + 8)))), .val (.int (4 : Int32)), .val (.int ((Int32.ofNat c5) + (1 : Int32))), .val (.ref r0), .val (.int (Int32.ofNat n_r0)), .val (.int (Int32.ofNat i)), .val (.int (v_r0 i))]) rfl kst) ?_
        rw [show (Int32.ofNat c5 + (1 : Int32)) = Int32.ofNat (c5 + 1) from own_add (n := 1) (by omega)]
        show Goes p e below s _ _ _ (TJ.setTop (mkF m 73 #[.val (.ref r0), .val (.ref bw), .val (.int (Int32.ofNat (own_B v_r0 (i + 1) % 2 ^ (1 + 8)))), .val (.int (4 : Int32)), .val (.int (Int32.ofNat (c5 + 1))), .val (.ref r0), .val (.int (Int32.ofNat n_r0)), .val (.int (Int32.ofNat i)), .val (.int (v_r0 i))] [(.int (Int32.ofNat c5)), (.ref bw)]))
        refine Goes.go (fun _ kst => XS.iloadN XJ.here hx rfl (hb hby d1_73) rfl  kst) ?_
        show Goes p e below s _ _ _ (TJ.setTop (mkF m 74 #[.val (.ref r0), .val (.ref bw), .val (.int (Int32.ofNat (own_B v_r0 (i + 1) % 2 ^ (1 + 8)))), .val (.int (4 : Int32)), .val (.int (Int32.ofNat (c5 + 1))), .val (.ref r0), .val (.int (Int32.ofNat n_r0)), .val (.int (Int32.ofNat i)), .val (.int (v_r0 i))] [(.int (Int32.ofNat (own_B v_r0 (i + 1) % 2 ^ (1 + 8)))), (.int (Int32.ofNat c5)), (.ref bw)]))
        refine Goes.go (fun _ kst => XS.iloadN XJ.here hx rfl (hb hby d1_74) rfl  kst) ?_
        show Goes p e below s _ _ _ (TJ.setTop (mkF m 75 #[.val (.ref r0), .val (.ref bw), .val (.int (Int32.ofNat (own_B v_r0 (i + 1) % 2 ^ (1 + 8)))), .val (.int (4 : Int32)), .val (.int (Int32.ofNat (c5 + 1))), .val (.ref r0), .val (.int (Int32.ofNat n_r0)), .val (.int (Int32.ofNat i)), .val (.int (v_r0 i))] [(.int (4 : Int32)), (.int (Int32.ofNat (own_B v_r0 (i + 1) % 2 ^ (1 + 8)))), (.int (Int32.ofNat c5)), (.ref bw)]))
        refine Goes.go (fun _ kst => XS.iushr XJ.here hx rfl (hb hby d1_75) rfl kst) ?_
        show Goes p e below s _ _ _ (TJ.setTop (mkF m 76 #[.val (.ref r0), .val (.ref bw), .val (.int (Int32.ofNat (own_B v_r0 (i + 1) % 2 ^ (1 + 8)))), .val (.int (4 : Int32)), .val (.int (Int32.ofNat (c5 + 1))), .val (.ref r0), .val (.int (Int32.ofNat n_r0)), .val (.int (Int32.ofNat i)), .val (.int (v_r0 i))] [(.int (((Int32.ofNat (own_B v_r0 (i + 1) % 2 ^ (1 + 8))).toUInt32 >>> ((4 : Int32) &&& 31).toUInt32).toInt32)), (.int (Int32.ofNat c5)), (.ref bw)]))
        refine Goes.go (fun _ kst => XS.bipush XJ.here hx rfl (hb hby d1_76) kst) ?_
        show Goes p e below s _ _ _ (TJ.setTop (mkF m 78 #[.val (.ref r0), .val (.ref bw), .val (.int (Int32.ofNat (own_B v_r0 (i + 1) % 2 ^ (1 + 8)))), .val (.int (4 : Int32)), .val (.int (Int32.ofNat (c5 + 1))), .val (.ref r0), .val (.int (Int32.ofNat n_r0)), .val (.int (Int32.ofNat i)), .val (.int (v_r0 i))] [(.int (31 : Int32)), (.int (((Int32.ofNat (own_B v_r0 (i + 1) % 2 ^ (1 + 8))).toUInt32 >>> ((4 : Int32) &&& 31).toUInt32).toInt32)), (.int (Int32.ofNat c5)), (.ref bw)]))
        refine Goes.go (fun _ kst => XS.iand XJ.here hx rfl (hb hby d1_78) rfl kst) ?_
        rw [show ((((Int32.ofNat (own_B v_r0 (i + 1) % 2 ^ (1 + 8))).toUInt32 >>> ((4 : Int32) &&& 31).toUInt32).toInt32) &&& (31 : Int32)) = (Int32.ofNat (own_B v_r0 (i + 1) % 2 ^ (1 + 8) / 2 ^ 4 % 32)) from own_sh hA (by decide) (by decide)]
        show Goes p e below s _ _ _ (TJ.setTop (mkF m 79 #[.val (.ref r0), .val (.ref bw), .val (.int (Int32.ofNat (own_B v_r0 (i + 1) % 2 ^ (1 + 8)))), .val (.int (4 : Int32)), .val (.int (Int32.ofNat (c5 + 1))), .val (.ref r0), .val (.int (Int32.ofNat n_r0)), .val (.int (Int32.ofNat i)), .val (.int (v_r0 i))] [(.int (Int32.ofNat (own_B v_r0 (i + 1) % 2 ^ (1 + 8) / 2 ^ 4 % 32))), (.int (Int32.ofNat c5)), (.ref bw)]))
        obtain ⟨T21, h21, X21, e21, W21, A21, st21⟩ := own_stI XJ hx hZ eJ AW (i := c5) rfl (by omega) (g := (mkF m 79 #[.val (.ref r0), .val (.ref bw), .val (.int (Int32.ofNat (own_B v_r0 (i + 1) % 2 ^ (1 + 8)))), .val (.int (4 : Int32)), .val (.int (Int32.ofNat (c5 + 1))), .val (.ref r0), .val (.int (Int32.ofNat n_r0)), .val (.int (Int32.ofNat i)), .val (.int (v_r0 i))] [(.int (Int32.ofNat (own_B v_r0 (i + 1) % 2 ^ (1 + 8) / 2 ^ 4 % 32))), (.int (Int32.ofNat c5)), (.ref bw)])) rfl rfl (hb hby d1_79)
        have N21 := Fr.snoc X21 NJ gw
        have Z21 := Nat.le_trans ZJ (Keep.of_wr W21).1
        have K21 := Keep.wr KJ W21 (Or.inr sw)
        refine Goes.go st21 ?_
        show Goes p e below s _ _ _ (T21.setTop (mkF m 80 #[.val (.ref r0), .val (.ref bw), .val (.int (Int32.ofNat (own_B v_r0 (i + 1) % 2 ^ (1 + 8)))), .val (.int (4 : Int32)), .val (.int (Int32.ofNat (c5 + 1))), .val (.ref r0), .val (.int (Int32.ofNat n_r0)), .val (.int (Int32.ofNat i)), .val (.int (v_r0 i))] []))
        refine Goes.go (fun _ kst => XS.goto X21.here hx rfl (pc0 := 80) (pc' := 59) rfl (hb hby d1_80) (by decide) (by decide) kst) ?_
        show Goes p e below s _ _ _ (T21.setTop (mkF m 59 #[.val (.ref r0), .val (.ref bw), .val (.int (Int32.ofNat (own_B v_r0 (i + 1) % 2 ^ (1 + 8)))), .val (.int (4 : Int32)), .val (.int (Int32.ofNat (c5 + 1))), .val (.ref r0), .val (.int (Int32.ofNat n_r0)), .val (.int (Int32.ofNat i)), .val (.int (v_r0 i))] []))
        refine Goes.go (fun _ kst => XS.iloadN X21.here hx rfl (hb hby d1_59) rfl  kst) ?_
        show Goes p e below s _ _ _ (T21.setTop (mkF m 60 #[.val (.ref r0), .val (.ref bw), .val (.int (Int32.ofNat (own_B v_r0 (i + 1) % 2 ^ (1 + 8)))), .val (.int (4 : Int32)), .val (.int (Int32.ofNat (c5 + 1))), .val (.ref r0), .val (.int (Int32.ofNat n_r0)), .val (.int (Int32.ofNat i)), .val (.int (v_r0 i))] [(.int (4 : Int32))]))
        refine Goes.go (fun _ kst => XS.iconst X21.here hx rfl (hb hby d1_60) kst) ?_
        show Goes p e below s _ _ _ (T21.setTop (mkF m 61 #[.val (.ref r0), .val (.ref bw), .val (.int (Int32.ofNat (own_B v_r0 (i + 1) % 2 ^ (1 + 8)))), .val (.int (4 : Int32)), .val (.int (Int32.ofNat (c5 + 1))), .val (.ref r0), .val (.int (Int32.ofNat n_r0)), .val (.int (Int32.ofNat i)), .val (.int (v_r0 i))] [(.int (5 : Int32)), (.int (4 : Int32))]))
        have hc61_22 : (4 : Int32) < (5 : Int32) := (by decide)
        refine Goes.go (fun _ kst => XS.icmpYes X21.here hx rfl (pc0 := 61) (pc' := 83) rfl (hb hby d1_61) rfl (tlt hc61_22).1 (by decide) (by decide) kst) ?_
        show Goes p e below s _ _ _ (T21.setTop (mkF m 83 #[.val (.ref r0), .val (.ref bw), .val (.int (Int32.ofNat (own_B v_r0 (i + 1) % 2 ^ (1 + 8)))), .val (.int (4 : Int32)), .val (.int (Int32.ofNat (c5 + 1))), .val (.ref r0), .val (.int (Int32.ofNat n_r0)), .val (.int (Int32.ofNat i)), .val (.int (v_r0 i))] []))
        refine Goes.go (fun _ kst => XS.iloadN X21.here hx rfl (hb hby d1_83) rfl  kst) ?_
        show Goes p e below s _ _ _ (T21.setTop (mkF m 84 #[.val (.ref r0), .val (.ref bw), .val (.int (Int32.ofNat (own_B v_r0 (i + 1) % 2 ^ (1 + 8)))), .val (.int (4 : Int32)), .val (.int (Int32.ofNat (c5 + 1))), .val (.ref r0), .val (.int (Int32.ofNat n_r0)), .val (.int (Int32.ofNat i)), .val (.int (v_r0 i))] [(.int (Int32.ofNat (own_B v_r0 (i + 1) % 2 ^ (1 + 8))))]))
        refine Goes.go (fun _ kst => XS.iconst X21.here hx rfl (hb hby d1_84) kst) ?_
        show Goes p e below s _ _ _ (T21.setTop (mkF m 85 #[.val (.ref r0), .val (.ref bw), .val (.int (Int32.ofNat (own_B v_r0 (i + 1) % 2 ^ (1 + 8)))), .val (.int (4 : Int32)), .val (.int (Int32.ofNat (c5 + 1))), .val (.ref r0), .val (.int (Int32.ofNat n_r0)), .val (.int (Int32.ofNat i)), .val (.int (v_r0 i))] [(.int (1 : Int32)), (.int (Int32.ofNat (own_B v_r0 (i + 1) % 2 ^ (1 + 8))))]))
        refine Goes.go (fun _ kst => XS.iloadN X21.here hx rfl (hb hby d1_85) rfl  kst) ?_
        show Goes p e below s _ _ _ (T21.setTop (mkF m 86 #[.val (.ref r0), .val (.ref bw), .val (.int (Int32.ofNat (own_B v_r0 (i + 1) % 2 ^ (1 + 8)))), .val (.int (4 : Int32)), .val (.int (Int32.ofNat (c5 + 1))), .val (.ref r0), .val (.int (Int32.ofNat n_r0)), .val (.int (Int32.ofNat i)), .val (.int (v_r0 i))] [(.int (4 : Int32)), (.int (1 : Int32)), (.int (Int32.ofNat (own_B v_r0 (i + 1) % 2 ^ (1 + 8))))]))
        refine Goes.go (fun _ kst => XS.ishl X21.here hx rfl (hb hby d1_86) rfl kst) ?_
        show Goes p e below s _ _ _ (T21.setTop (mkF m 87 #[.val (.ref r0), .val (.ref bw), .val (.int (Int32.ofNat (own_B v_r0 (i + 1) % 2 ^ (1 + 8)))), .val (.int (4 : Int32)), .val (.int (Int32.ofNat (c5 + 1))), .val (.ref r0), .val (.int (Int32.ofNat n_r0)), .val (.int (Int32.ofNat i)), .val (.int (v_r0 i))] [(.int ((1 : Int32) <<< ((4 : Int32) &&& 31))), (.int (Int32.ofNat (own_B v_r0 (i + 1) % 2 ^ (1 + 8))))]))
        refine Goes.go (fun _ kst => XS.iconst X21.here hx rfl (hb hby d1_87) kst) ?_
        show Goes p e below s _ _ _ (T21.setTop (mkF m 88 #[.val (.ref r0), .val (.ref bw), .val (.int (Int32.ofNat (own_B v_r0 (i + 1) % 2 ^ (1 + 8)))), .val (.int (4 : Int32)), .val (.int (Int32.ofNat (c5 + 1))), .val (.ref r0), .val (.int (Int32.ofNat n_r0)), .val (.int (Int32.ofNat i)), .val (.int (v_r0 i))] [(.int (1 : Int32)), (.int ((1 : Int32) <<< ((4 : Int32) &&& 31))), (.int (Int32.ofNat (own_B v_r0 (i + 1) % 2 ^ (1 + 8))))]))
        refine Goes.go (fun _ kst => XS.isub X21.here hx rfl (hb hby d1_88) rfl kst) ?_
        show Goes p e below s _ _ _ (T21.setTop (mkF m 89 #[.val (.ref r0), .val (.ref bw), .val (.int (Int32.ofNat (own_B v_r0 (i + 1) % 2 ^ (1 + 8)))), .val (.int (4 : Int32)), .val (.int (Int32.ofNat (c5 + 1))), .val (.ref r0), .val (.int (Int32.ofNat n_r0)), .val (.int (Int32.ofNat i)), .val (.int (v_r0 i))] [(.int (((1 : Int32) <<< ((4 : Int32) &&& 31)) - (1 : Int32))), (.int (Int32.ofNat (own_B v_r0 (i + 1) % 2 ^ (1 + 8))))]))
        refine Goes.go (fun _ kst => XS.iand X21.here hx rfl (hb hby d1_89) rfl kst) ?_
        rw [show ((Int32.ofNat (own_B v_r0 (i + 1) % 2 ^ (1 + 8))) &&& (((1 : Int32) <<< ((4 : Int32) &&& 31)) - (1 : Int32))) = (Int32.ofNat (own_B v_r0 (i + 1) % 2 ^ (1 + 8) % 2 ^ 4)) from own_mk hA (by decide) (by decide)]
        rw [own_mm (b := 1) (k := 4) (by decide)]
        show Goes p e below s _ _ _ (T21.setTop (mkF m 90 #[.val (.ref r0), .val (.ref bw), .val (.int (Int32.ofNat (own_B v_r0 (i + 1) % 2 ^ (1 + 8)))), .val (.int (4 : Int32)), .val (.int (Int32.ofNat (c5 + 1))), .val (.ref r0), .val (.int (Int32.ofNat n_r0)), .val (.int (Int32.ofNat i)), .val (.int (v_r0 i))] [(.int (Int32.ofNat (own_B v_r0 (i + 1) % 2 ^ 4)))]))
        refine Goes.go (fun _ kst => XS.istoreN X21.here hx rfl (hb hby d1_90) rfl (l' := #[.val (.ref r0), .val (.ref bw), .val (.int (Int32.ofNat (own_B v_r0 (i + 1) % 2 ^ 4))), .val (.int (4 : Int32)), .val (.int (Int32.ofNat (c5 + 1))), .val (.ref r0), .val (.int (Int32.ofNat n_r0)), .val (.int (Int32.ofNat i)), .val (.int (v_r0 i))]) rfl kst) ?_
        show Goes p e below s _ _ _ (T21.setTop (mkF m 91 #[.val (.ref r0), .val (.ref bw), .val (.int (Int32.ofNat (own_B v_r0 (i + 1) % 2 ^ 4))), .val (.int (4 : Int32)), .val (.int (Int32.ofNat (c5 + 1))), .val (.ref r0), .val (.int (Int32.ofNat n_r0)), .val (.int (Int32.ofNat i)), .val (.int (v_r0 i))] []))
        refine Goes.go (fun _ kst => XS.iinc X21.here hx rfl (hb hby d1_91) rfl (l' := #[.val (.ref r0), .val (.ref bw), .val (.int (Int32.ofNat (own_B v_r0 (i + 1) % 2 ^ 4))), .val (.int (4 : Int32)), .val (.int (Int32.ofNat (c5 + 1))), .val (.ref r0), .val (.int (Int32.ofNat n_r0)), .val (.int ((Int32.ofNat i) + (1 : Int32))), .val (.int (v_r0 i))]) rfl kst) ?_
        rw [show (Int32.ofNat i + (1 : Int32)) = Int32.ofNat (i + 1) from own_add (n := 1) (by omega)]
        show Goes p e below s _ _ _ (T21.setTop (mkF m 94 #[.val (.ref r0), .val (.ref bw), .val (.int (Int32.ofNat (own_B v_r0 (i + 1) % 2 ^ 4))), .val (.int (4 : Int32)), .val (.int (Int32.ofNat (c5 + 1))), .val (.ref r0), .val (.int (Int32.ofNat n_r0)), .val (.int (Int32.ofNat (i + 1))), .val (.int (v_r0 i))] []))
        refine Goes.go (fun _ kst => XS.goto X21.here hx rfl (pc0 := 94) (pc' := 30) rfl (hb hby d1_94) (by decide) (by decide) kst) ?_
        exact ih (i + 1) 4 (c5 + 1) _ bw X21 e21 N21 Z21 K21 ((A21).as (fun k _ => own_F1 (b := 1) hc hbv (by omega) k)) gw sw n0w (One.val rfl) (by omega) (by omega) (by omega)
      · skip
        show Goes p e below s _ _ _ (TJ.setTop (mkF m 30 #[.val (.ref r0), .val (.ref bw), .val (.int (Int32.ofNat (own_B v_r0 i % 2 ^ 2))), .val (.int (2 : Int32)), .val (.int (Int32.ofNat c5)), .val (.ref r0), .val (.int (Int32.ofNat n_r0)), .val (.int (Int32.ofNat i)), s8] []))
        refine Goes.go (fun _ kst => XS.iload XJ.here hx rfl (hb hby d1_30) rfl  kst) ?_
        show Goes p e below s _ _ _ (TJ.setTop (mkF m 32 #[.val (.ref r0), .val (.ref bw), .val (.int (Int32.ofNat (own_B v_r0 i % 2 ^ 2))), .val (.int (2 : Int32)), .val (.int (Int32.ofNat c5)), .val (.ref r0), .val (.int (Int32.ofNat n_r0)), .val (.int (Int32.ofNat i)), s8] [(.int (Int32.ofNat i))]))
        refine Goes.go (fun _ kst => XS.iload XJ.here hx rfl (hb hby d1_32) rfl  kst) ?_
        show Goes p e below s _ _ _ (TJ.setTop (mkF m 34 #[.val (.ref r0), .val (.ref bw), .val (.int (Int32.ofNat (own_B v_r0 i % 2 ^ 2))), .val (.int (2 : Int32)), .val (.int (Int32.ofNat c5)), .val (.ref r0), .val (.int (Int32.ofNat n_r0)), .val (.int (Int32.ofNat i)), s8] [(.int (Int32.ofNat n_r0)), (.int (Int32.ofNat i))]))
        have hc34_23 : (Int32.ofNat i) < (Int32.ofNat n_r0) := (own_lt (by omega) (by omega)).mpr (by omega)
        refine Goes.go (fun _ kst => XS.icmpNo XJ.here hx rfl (hb hby d1_34) rfl (tlt hc34_23).2.1 kst) ?_
        show Goes p e below s _ _ _ (TJ.setTop (mkF m 37 #[.val (.ref r0), .val (.ref bw), .val (.int (Int32.ofNat (own_B v_r0 i % 2 ^ 2))), .val (.int (2 : Int32)), .val (.int (Int32.ofNat c5)), .val (.ref r0), .val (.int (Int32.ofNat n_r0)), .val (.int (Int32.ofNat i)), s8] []))
        refine Goes.go (fun _ kst => XS.aload XJ.here hx rfl (hb hby d1_37) rfl rfl  kst) ?_
        show Goes p e below s _ _ _ (TJ.setTop (mkF m 39 #[.val (.ref r0), .val (.ref bw), .val (.int (Int32.ofNat (own_B v_r0 i % 2 ^ 2))), .val (.int (2 : Int32)), .val (.int (Int32.ofNat c5)), .val (.ref r0), .val (.int (Int32.ofNat n_r0)), .val (.int (Int32.ofNat i)), s8] [(.ref r0)]))
        refine Goes.go (fun _ kst => XS.iload XJ.here hx rfl (hb hby d1_39) rfl  kst) ?_
        show Goes p e below s _ _ _ (TJ.setTop (mkF m 41 #[.val (.ref r0), .val (.ref bw), .val (.int (Int32.ofNat (own_B v_r0 i % 2 ^ 2))), .val (.int (2 : Int32)), .val (.int (Int32.ofNat c5)), .val (.ref r0), .val (.int (Int32.ofNat n_r0)), .val (.int (Int32.ofNat i)), s8] [(.int (Int32.ofNat i)), (.ref r0)]))
        refine Goes.go (own_ldB XJ hx hZ eJ A0 (i := i) rfl (by omega) (g := (mkF m 41 #[.val (.ref r0), .val (.ref bw), .val (.int (Int32.ofNat (own_B v_r0 i % 2 ^ 2))), .val (.int (2 : Int32)), .val (.int (Int32.ofNat c5)), .val (.ref r0), .val (.int (Int32.ofNat n_r0)), .val (.int (Int32.ofNat i)), s8] [(.int (Int32.ofNat i)), (.ref r0)])) rfl rfl (hb hby d1_41)) ?_
        show Goes p e below s _ _ _ (TJ.setTop (mkF m 42 #[.val (.ref r0), .val (.ref bw), .val (.int (Int32.ofNat (own_B v_r0 i % 2 ^ 2))), .val (.int (2 : Int32)), .val (.int (Int32.ofNat c5)), .val (.ref r0), .val (.int (Int32.ofNat n_r0)), .val (.int (Int32.ofNat i)), s8] [(.int (v_r0 i))]))
        refine Goes.go (fun _ kst => XS.istore XJ.here hx rfl (hb hby d1_42) rfl (l' := #[.val (.ref r0), .val (.ref bw), .val (.int (Int32.ofNat (own_B v_r0 i % 2 ^ 2))), .val (.int (2 : Int32)), .val (.int (Int32.ofNat c5)), .val (.ref r0), .val (.int (Int32.ofNat n_r0)), .val (.int (Int32.ofNat i)), .val (.int (v_r0 i))]) (XS.store1 rfl hs8 rfl) kst) ?_
        show Goes p e below s _ _ _ (TJ.setTop (mkF m 44 #[.val (.ref r0), .val (.ref bw), .val (.int (Int32.ofNat (own_B v_r0 i % 2 ^ 2))), .val (.int (2 : Int32)), .val (.int (Int32.ofNat c5)), .val (.ref r0), .val (.int (Int32.ofNat n_r0)), .val (.int (Int32.ofNat i)), .val (.int (v_r0 i))] []))
        refine Goes.go (fun _ kst => XS.iloadN XJ.here hx rfl (hb hby d1_44) rfl  kst) ?_
        show Goes p e below s _ _ _ (TJ.setTop (mkF m 45 #[.val (.ref r0), .val (.ref bw), .val (.int (Int32.ofNat (own_B v_r0 i % 2 ^ 2))), .val (.int (2 : Int32)), .val (.int (Int32.ofNat c5)), .val (.ref r0), .val (.int (Int32.ofNat n_r0)), .val (.int (Int32.ofNat i)), .val (.int (v_r0 i))] [(.int (Int32.ofNat (own_B v_r0 i % 2 ^ 2)))]))
        refine Goes.go (fun _ kst => XS.bipush XJ.here hx rfl (hb hby d1_45) kst) ?_
        show Goes p e below s _ _ _ (TJ.setTop (mkF m 47 #[.val (.ref r0), .val (.ref bw), .val (.int (Int32.ofNat (own_B v_r0 i % 2 ^ 2))), .val (.int (2 : Int32)), .val (.int (Int32.ofNat c5)), .val (.ref r0), .val (.int (Int32.ofNat n_r0)), .val (.int (Int32.ofNat i)), .val (.int (v_r0 i))] [(.int (8 : Int32)), (.int (Int32.ofNat (own_B v_r0 i % 2 ^ 2)))]))
        refine Goes.go (fun _ kst => XS.ishl XJ.here hx rfl (hb hby d1_47) rfl kst) ?_
        show Goes p e below s _ _ _ (TJ.setTop (mkF m 48 #[.val (.ref r0), .val (.ref bw), .val (.int (Int32.ofNat (own_B v_r0 i % 2 ^ 2))), .val (.int (2 : Int32)), .val (.int (Int32.ofNat c5)), .val (.ref r0), .val (.int (Int32.ofNat n_r0)), .val (.int (Int32.ofNat i)), .val (.int (v_r0 i))] [(.int ((Int32.ofNat (own_B v_r0 i % 2 ^ 2)) <<< ((8 : Int32) &&& 31)))]))
        refine Goes.go (fun _ kst => XS.iload XJ.here hx rfl (hb hby d1_48) rfl  kst) ?_
        show Goes p e below s _ _ _ (TJ.setTop (mkF m 50 #[.val (.ref r0), .val (.ref bw), .val (.int (Int32.ofNat (own_B v_r0 i % 2 ^ 2))), .val (.int (2 : Int32)), .val (.int (Int32.ofNat c5)), .val (.ref r0), .val (.int (Int32.ofNat n_r0)), .val (.int (Int32.ofNat i)), .val (.int (v_r0 i))] [(.int (v_r0 i)), (.int ((Int32.ofNat (own_B v_r0 i % 2 ^ 2)) <<< ((8 : Int32) &&& 31)))]))
        refine Goes.go (fun _ kst => XS.sipush XJ.here hx rfl (hb hby d1_50) kst) ?_
        show Goes p e below s _ _ _ (TJ.setTop (mkF m 53 #[.val (.ref r0), .val (.ref bw), .val (.int (Int32.ofNat (own_B v_r0 i % 2 ^ 2))), .val (.int (2 : Int32)), .val (.int (Int32.ofNat c5)), .val (.ref r0), .val (.int (Int32.ofNat n_r0)), .val (.int (Int32.ofNat i)), .val (.int (v_r0 i))] [(.int (255 : Int32)), (.int (v_r0 i)), (.int ((Int32.ofNat (own_B v_r0 i % 2 ^ 2)) <<< ((8 : Int32) &&& 31)))]))
        refine Goes.go (fun _ kst => XS.iand XJ.here hx rfl (hb hby d1_53) rfl kst) ?_
        show Goes p e below s _ _ _ (TJ.setTop (mkF m 54 #[.val (.ref r0), .val (.ref bw), .val (.int (Int32.ofNat (own_B v_r0 i % 2 ^ 2))), .val (.int (2 : Int32)), .val (.int (Int32.ofNat c5)), .val (.ref r0), .val (.int (Int32.ofNat n_r0)), .val (.int (Int32.ofNat i)), .val (.int (v_r0 i))] [(.int ((v_r0 i) &&& (255 : Int32))), (.int ((Int32.ofNat (own_B v_r0 i % 2 ^ 2)) <<< ((8 : Int32) &&& 31)))]))
        refine Goes.go (fun _ kst => XS.ior XJ.here hx rfl (hb hby d1_54) rfl kst) ?_
        rw [show (((Int32.ofNat (own_B v_r0 i % 2 ^ 2)) <<< ((8 : Int32) &&& 31)) ||| ((v_r0 i) &&& (255 : Int32))) = Int32.ofNat (own_B v_r0 i % 2 ^ 2 * 256 + own_ub (v_r0 i)) from own_acc _ (hB 2 (by decide))]
        rw [own_A 2]
        have hA : own_B v_r0 (i + 1) % 2 ^ (2 + 8) < 4096 := Nat.lt_of_lt_of_le (Nat.mod_lt _ (Nat.pow_pos (by decide))) (by decide)
        show Goes p e below s _ _ _ (TJ.setTop (mkF m 55 #[.val (.ref r0), .val (.ref bw), .val (.int (Int32.ofNat (own_B v_r0 i % 2 ^ 2))), .val (.int (2 : Int32)), .val (.int (Int32.ofNat c5)), .val (.ref r0), .val (.int (Int32.ofNat n_r0)), .val (.int (Int32.ofNat i)), .val (.int (v_r0 i))] [(.int (Int32.ofNat (own_B v_r0 (i + 1) % 2 ^ (2 + 8))))]))
        refine Goes.go (fun _ kst => XS.istoreN XJ.here hx rfl (hb hby d1_55) rfl (l' := #[.val (.ref r0), .val (.ref bw), .val (.int (Int32.ofNat (own_B v_r0 (i + 1) % 2 ^ (2 + 8)))), .val (.int (2 : Int32)), .val (.int (Int32.ofNat c5)), .val (.ref r0), .val (.int (Int32.ofNat n_r0)), .val (.int (Int32.ofNat i)), .val (.int (v_r0 i))]) rfl kst) ?_
        show Goes p e below s _ _ _ (TJ.setTop (mkF m 56 #[.val (.ref r0), .val (.ref bw), .val (.int (Int32.ofNat (own_B v_r0 (i + 1) % 2 ^ (2 + 8)))), .val (.int (2 : Int32)), .val (.int (Int32.ofNat c5)), .val (.ref r0), .val (.int (Int32.ofNat n_r0)), .val (.int (Int32.ofNat i)), .val (.int (v_r0 i))] []))
        refine Goes.go (fun _ kst => XS.iinc XJ.here hx rfl (hb hby d1_56) rfl (l' := #[.val (.ref r0), .val (.ref bw), .val (.int (Int32.ofNat (own_B v_r0 (i + 1) % 2 ^ (2 + 8)))), .val (.int ((2 : Int32) + (8 : Int32))), .val (.int (Int32.ofNat c5)), .val (.ref r0), .val (.int (Int32.ofNat n_r0)), .val (.int (Int32.ofNat i)), .val (.int (v_r0 i))]) rfl kst) ?_
        rw [show ((2 : Int32) + (8 : Int32)) = (10 : Int32) from by decide]
        show Goes p e below s _ _ _ (TJ.setTop (mkF m 59 #[.val (.ref r0), .val (.ref bw), .val (.int (Int32.ofNat (own_B v_r0 (i + 1) % 2 ^ (2 + 8)))), .val (.int (10 : Int32)), .val (.int (Int32.ofNat c5)), .val (.ref r0), .val (.int (Int32.ofNat n_r0)), .val (.int (Int32.ofNat i)), .val (.int (v_r0 i))] []))
        refine Goes.go (fun _ kst => XS.iloadN XJ.here hx rfl (hb hby d1_59) rfl  kst) ?_
        show Goes p e below s _ _ _ (TJ.setTop (mkF m 60 #[.val (.ref r0), .val (.ref bw), .val (.int (Int32.ofNat (own_B v_r0 (i + 1) % 2 ^ (2 + 8)))), .val (.int (10 : Int32)), .val (.int (Int32.ofNat c5)), .val (.ref r0), .val (.int (Int32.ofNat n_r0)), .val (.int (Int32.ofNat i)), .val (.int (v_r0 i))] [(.int (10 : Int32))]))
        refine Goes.go (fun _ kst => XS.iconst XJ.here hx rfl (hb hby d1_60) kst) ?_
        show Goes p e below s _ _ _ (TJ.setTop (mkF m 61 #[.val (.ref r0), .val (.ref bw), .val (.int (Int32.ofNat (own_B v_r0 (i + 1) % 2 ^ (2 + 8)))), .val (.int (10 : Int32)), .val (.int (Int32.ofNat c5)), .val (.ref r0), .val (.int (Int32.ofNat n_r0)), .val (.int (Int32.ofNat i)), .val (.int (v_r0 i))] [(.int (5 : Int32)), (.int (10 : Int32))]))
        have hc61_24 : ¬ ((10 : Int32) < (5 : Int32)) := (by decide)
        refine Goes.go (fun _ kst => XS.icmpNo XJ.here hx rfl (hb hby d1_61) rfl (flt hc61_24).1 kst) ?_
        show Goes p e below s _ _ _ (TJ.setTop (mkF m 64 #[.val (.ref r0), .val (.ref bw), .val (.int (Int32.ofNat (own_B v_r0 (i + 1) % 2 ^ (2 + 8)))), .val (.int (10 : Int32)), .val (.int (Int32.ofNat c5)), .val (.ref r0), .val (.int (Int32.ofNat n_r0)), .val (.int (Int32.ofNat i)), .val (.int (v_r0 i))] []))
        refine Goes.go (fun _ kst => XS.iinc XJ.here hx rfl (hb hby d1_64) rfl (l' := #[.val (.ref r0), .val (.ref bw), .val (.int (Int32.ofNat (own_B v_r0 (i + 1) % 2 ^ (2 + 8)))), .val (.int ((10 : Int32) + (-5 : Int32))), .val (.int (Int32.ofNat c5)), .val (.ref r0), .val (.int (Int32.ofNat n_r0)), .val (.int (Int32.ofNat i)), .val (.int (v_r0 i))]) rfl kst) ?_
        rw [show ((10 : Int32) + (-5 : Int32)) = (5 : Int32) from by decide]
        show Goes p e below s _ _ _ (TJ.setTop (mkF m 67 #[.val (.ref r0), .val (.ref bw), .val (.int (Int32.ofNat (own_B v_r0 (i + 1) % 2 ^ (2 + 8)))), .val (.int (5 : Int32)), .val (.int (Int32.ofNat c5)), .val (.ref r0), .val (.int (Int32.ofNat n_r0)), .val (.int (Int32.ofNat i)), .val (.int (v_r0 i))] []))
        refine Goes.go (fun _ kst => XS.aloadN XJ.here hx rfl (hb hby d1_67) rfl rfl  kst) ?_
        show Goes p e below s _ _ _ (TJ.setTop (mkF m 68 #[.val (.ref r0), .val (.ref bw), .val (.int (Int32.ofNat (own_B v_r0 (i + 1) % 2 ^ (2 + 8)))), .val (.int (5 : Int32)), .val (.int (Int32.ofNat c5)), .val (.ref r0), .val (.int (Int32.ofNat n_r0)), .val (.int (Int32.ofNat i)), .val (.int (v_r0 i))] [(.ref bw)]))
        refine Goes.go (fun _ kst => XS.iload XJ.here hx rfl (hb hby d1_68) rfl  kst) ?_
        show Goes p e below s _ _ _ (TJ.setTop (mkF m 70 #[.val (.ref r0), .val (.ref bw), .val (.int (Int32.ofNat (own_B v_r0 (i + 1) % 2 ^ (2 + 8)))), .val (.int (5 : Int32)), .val (.int (Int32.ofNat c5)), .val (.ref r0), .val (.int (Int32.ofNat n_r0)), .val (.int (Int32.ofNat i)), .val (.int (v_r0 i))] [(.int (Int32.ofNat c5)), (.ref bw)]))
        refine Goes.go (fun _ kst => XS.iinc XJ.here hx rfl (hb hby d1_70) rfl (l' := #[.val (.ref r0), .val (.ref bw), .val (.int (Int32.ofNat (own_B v_r0 (i + 1) % 2 ^ (2 + 8)))), .val (.int (5 : Int32)), .val (.int ((Int32.ofNat c5) + (1 : Int32))), .val (.ref r0), .val (.int (Int32.ofNat n_r0)), .val (.int (Int32.ofNat i)), .val (.int (v_r0 i))]) rfl kst) ?_
        rw [show (Int32.ofNat c5 + (1 : Int32)) = Int32.ofNat (c5 + 1) from own_add (n := 1) (by omega)]
        show Goes p e below s _ _ _ (TJ.setTop (mkF m 73 #[.val (.ref r0), .val (.ref bw), .val (.int (Int32.ofNat (own_B v_r0 (i + 1) % 2 ^ (2 + 8)))), .val (.int (5 : Int32)), .val (.int (Int32.ofNat (c5 + 1))), .val (.ref r0), .val (.int (Int32.ofNat n_r0)), .val (.int (Int32.ofNat i)), .val (.int (v_r0 i))] [(.int (Int32.ofNat c5)), (.ref bw)]))
        refine Goes.go (fun _ kst => XS.iloadN XJ.here hx rfl (hb hby d1_73) rfl  kst) ?_
        show Goes p e below s _ _ _ (TJ.setTop (mkF m 74 #[.val (.ref r0), .val (.ref bw), .val (.int (Int32.ofNat (own_B v_r0 (i + 1) % 2 ^ (2 + 8)))), .val (.int (5 : Int32)), .val (.int (Int32.ofNat (c5 + 1))), .val (.ref r0), .val (.int (Int32.ofNat n_r0)), .val (.int (Int32.ofNat i)), .val (.int (v_r0 i))] [(.int (Int32.ofNat (own_B v_r0 (i + 1) % 2 ^ (2 + 8)))), (.int (Int32.ofNat c5)), (.ref bw)]))
        refine Goes.go (fun _ kst => XS.iloadN XJ.here hx rfl (hb hby d1_74) rfl  kst) ?_
        show Goes p e below s _ _ _ (TJ.setTop (mkF m 75 #[.val (.ref r0), .val (.ref bw), .val (.int (Int32.ofNat (own_B v_r0 (i + 1) % 2 ^ (2 + 8)))), .val (.int (5 : Int32)), .val (.int (Int32.ofNat (c5 + 1))), .val (.ref r0), .val (.int (Int32.ofNat n_r0)), .val (.int (Int32.ofNat i)), .val (.int (v_r0 i))] [(.int (5 : Int32)), (.int (Int32.ofNat (own_B v_r0 (i + 1) % 2 ^ (2 + 8)))), (.int (Int32.ofNat c5)), (.ref bw)]))
        refine Goes.go (fun _ kst => XS.iushr XJ.here hx rfl (hb hby d1_75) rfl kst) ?_
        show Goes p e below s _ _ _ (TJ.setTop (mkF m 76 #[.val (.ref r0), .val (.ref bw), .val (.int (Int32.ofNat (own_B v_r0 (i + 1) % 2 ^ (2 + 8)))), .val (.int (5 : Int32)), .val (.int (Int32.ofNat (c5 + 1))), .val (.ref r0), .val (.int (Int32.ofNat n_r0)), .val (.int (Int32.ofNat i)), .val (.int (v_r0 i))] [(.int (((Int32.ofNat (own_B v_r0 (i + 1) % 2 ^ (2 + 8))).toUInt32 >>> ((5 : Int32) &&& 31).toUInt32).toInt32)), (.int (Int32.ofNat c5)), (.ref bw)]))
        refine Goes.go (fun _ kst => XS.bipush XJ.here hx rfl (hb hby d1_76) kst) ?_
        show Goes p e below s _ _ _ (TJ.setTop (mkF m 78 #[.val (.ref r0), .val (.ref bw), .val (.int (Int32.ofNat (own_B v_r0 (i + 1) % 2 ^ (2 + 8)))), .val (.int (5 : Int32)), .val (.int (Int32.ofNat (c5 + 1))), .val (.ref r0), .val (.int (Int32.ofNat n_r0)), .val (.int (Int32.ofNat i)), .val (.int (v_r0 i))] [(.int (31 : Int32)), (.int (((Int32.ofNat (own_B v_r0 (i + 1) % 2 ^ (2 + 8))).toUInt32 >>> ((5 : Int32) &&& 31).toUInt32).toInt32)), (.int (Int32.ofNat c5)), (.ref bw)]))
        refine Goes.go (fun _ kst => XS.iand XJ.here hx rfl (hb hby d1_78) rfl kst) ?_
        rw [show ((((Int32.ofNat (own_B v_r0 (i + 1) % 2 ^ (2 + 8))).toUInt32 >>> ((5 : Int32) &&& 31).toUInt32).toInt32) &&& (31 : Int32)) = (Int32.ofNat (own_B v_r0 (i + 1) % 2 ^ (2 + 8) / 2 ^ 5 % 32)) from own_sh hA (by decide) (by decide)]
        show Goes p e below s _ _ _ (TJ.setTop (mkF m 79 #[.val (.ref r0), .val (.ref bw), .val (.int (Int32.ofNat (own_B v_r0 (i + 1) % 2 ^ (2 + 8)))), .val (.int (5 : Int32)), .val (.int (Int32.ofNat (c5 + 1))), .val (.ref r0), .val (.int (Int32.ofNat n_r0)), .val (.int (Int32.ofNat i)), .val (.int (v_r0 i))] [(.int (Int32.ofNat (own_B v_r0 (i + 1) % 2 ^ (2 + 8) / 2 ^ 5 % 32))), (.int (Int32.ofNat c5)), (.ref bw)]))
        obtain ⟨T25, h25, X25, e25, W25, A25, st25⟩ := own_stI XJ hx hZ eJ AW (i := c5) rfl (by omega) (g := (mkF m 79 #[.val (.ref r0), .val (.ref bw), .val (.int (Int32.ofNat (own_B v_r0 (i + 1) % 2 ^ (2 + 8)))), .val (.int (5 : Int32)), .val (.int (Int32.ofNat (c5 + 1))), .val (.ref r0), .val (.int (Int32.ofNat n_r0)), .val (.int (Int32.ofNat i)), .val (.int (v_r0 i))] [(.int (Int32.ofNat (own_B v_r0 (i + 1) % 2 ^ (2 + 8) / 2 ^ 5 % 32))), (.int (Int32.ofNat c5)), (.ref bw)])) rfl rfl (hb hby d1_79)
        have N25 := Fr.snoc X25 NJ gw
        have Z25 := Nat.le_trans ZJ (Keep.of_wr W25).1
        have K25 := Keep.wr KJ W25 (Or.inr sw)
        refine Goes.go st25 ?_
        show Goes p e below s _ _ _ (T25.setTop (mkF m 80 #[.val (.ref r0), .val (.ref bw), .val (.int (Int32.ofNat (own_B v_r0 (i + 1) % 2 ^ (2 + 8)))), .val (.int (5 : Int32)), .val (.int (Int32.ofNat (c5 + 1))), .val (.ref r0), .val (.int (Int32.ofNat n_r0)), .val (.int (Int32.ofNat i)), .val (.int (v_r0 i))] []))
        refine Goes.go (fun _ kst => XS.goto X25.here hx rfl (pc0 := 80) (pc' := 59) rfl (hb hby d1_80) (by decide) (by decide) kst) ?_
        show Goes p e below s _ _ _ (T25.setTop (mkF m 59 #[.val (.ref r0), .val (.ref bw), .val (.int (Int32.ofNat (own_B v_r0 (i + 1) % 2 ^ (2 + 8)))), .val (.int (5 : Int32)), .val (.int (Int32.ofNat (c5 + 1))), .val (.ref r0), .val (.int (Int32.ofNat n_r0)), .val (.int (Int32.ofNat i)), .val (.int (v_r0 i))] []))
        refine Goes.go (fun _ kst => XS.iloadN X25.here hx rfl (hb hby d1_59) rfl  kst) ?_
        show Goes p e below s _ _ _ (T25.setTop (mkF m 60 #[.val (.ref r0), .val (.ref bw), .val (.int (Int32.ofNat (own_B v_r0 (i + 1) % 2 ^ (2 + 8)))), .val (.int (5 : Int32)), .val (.int (Int32.ofNat (c5 + 1))), .val (.ref r0), .val (.int (Int32.ofNat n_r0)), .val (.int (Int32.ofNat i)), .val (.int (v_r0 i))] [(.int (5 : Int32))]))
        refine Goes.go (fun _ kst => XS.iconst X25.here hx rfl (hb hby d1_60) kst) ?_
        show Goes p e below s _ _ _ (T25.setTop (mkF m 61 #[.val (.ref r0), .val (.ref bw), .val (.int (Int32.ofNat (own_B v_r0 (i + 1) % 2 ^ (2 + 8)))), .val (.int (5 : Int32)), .val (.int (Int32.ofNat (c5 + 1))), .val (.ref r0), .val (.int (Int32.ofNat n_r0)), .val (.int (Int32.ofNat i)), .val (.int (v_r0 i))] [(.int (5 : Int32)), (.int (5 : Int32))]))
        have hc61_26 : ¬ ((5 : Int32) < (5 : Int32)) := (by decide)
        refine Goes.go (fun _ kst => XS.icmpNo X25.here hx rfl (hb hby d1_61) rfl (flt hc61_26).1 kst) ?_
        show Goes p e below s _ _ _ (T25.setTop (mkF m 64 #[.val (.ref r0), .val (.ref bw), .val (.int (Int32.ofNat (own_B v_r0 (i + 1) % 2 ^ (2 + 8)))), .val (.int (5 : Int32)), .val (.int (Int32.ofNat (c5 + 1))), .val (.ref r0), .val (.int (Int32.ofNat n_r0)), .val (.int (Int32.ofNat i)), .val (.int (v_r0 i))] []))
        refine Goes.go (fun _ kst => XS.iinc X25.here hx rfl (hb hby d1_64) rfl (l' := #[.val (.ref r0), .val (.ref bw), .val (.int (Int32.ofNat (own_B v_r0 (i + 1) % 2 ^ (2 + 8)))), .val (.int ((5 : Int32) + (-5 : Int32))), .val (.int (Int32.ofNat (c5 + 1))), .val (.ref r0), .val (.int (Int32.ofNat n_r0)), .val (.int (Int32.ofNat i)), .val (.int (v_r0 i))]) rfl kst) ?_
        rw [show ((5 : Int32) + (-5 : Int32)) = (0 : Int32) from by decide]
        show Goes p e below s _ _ _ (T25.setTop (mkF m 67 #[.val (.ref r0), .val (.ref bw), .val (.int (Int32.ofNat (own_B v_r0 (i + 1) % 2 ^ (2 + 8)))), .val (.int (0 : Int32)), .val (.int (Int32.ofNat (c5 + 1))), .val (.ref r0), .val (.int (Int32.ofNat n_r0)), .val (.int (Int32.ofNat i)), .val (.int (v_r0 i))] []))
        refine Goes.go (fun _ kst => XS.aloadN X25.here hx rfl (hb hby d1_67) rfl rfl  kst) ?_
        show Goes p e below s _ _ _ (T25.setTop (mkF m 68 #[.val (.ref r0), .val (.ref bw), .val (.int (Int32.ofNat (own_B v_r0 (i + 1) % 2 ^ (2 + 8)))), .val (.int (0 : Int32)), .val (.int (Int32.ofNat (c5 + 1))), .val (.ref r0), .val (.int (Int32.ofNat n_r0)), .val (.int (Int32.ofNat i)), .val (.int (v_r0 i))] [(.ref bw)]))
        refine Goes.go (fun _ kst => XS.iload X25.here hx rfl (hb hby d1_68) rfl  kst) ?_
        show Goes p e below s _ _ _ (T25.setTop (mkF m 70 #[.val (.ref r0), .val (.ref bw), .val (.int (Int32.ofNat (own_B v_r0 (i + 1) % 2 ^ (2 + 8)))), .val (.int (0 : Int32)), .val (.int (Int32.ofNat (c5 + 1))), .val (.ref r0), .val (.int (Int32.ofNat n_r0)), .val (.int (Int32.ofNat i)), .val (.int (v_r0 i))] [(.int (Int32.ofNat (c5 + 1))), (.ref bw)]))
        refine Goes.go (fun _ kst => XS.iinc X25.here hx rfl (hb hby d1_70) rfl (l' := #[.val (.ref r0), .val (.ref bw), .val (.int (Int32.ofNat (own_B v_r0 (i + 1) % 2 ^ (2 + 8)))), .val (.int (0 : Int32)), .val (.int ((Int32.ofNat (c5 + 1)) + (1 : Int32))), .val (.ref r0), .val (.int (Int32.ofNat n_r0)), .val (.int (Int32.ofNat i)), .val (.int (v_r0 i))]) rfl kst) ?_
        rw [show (Int32.ofNat (c5 + 1) + (1 : Int32)) = Int32.ofNat (c5 + 2) from own_add (n := 1) (by omega)]
        show Goes p e below s _ _ _ (T25.setTop (mkF m 73 #[.val (.ref r0), .val (.ref bw), .val (.int (Int32.ofNat (own_B v_r0 (i + 1) % 2 ^ (2 + 8)))), .val (.int (0 : Int32)), .val (.int (Int32.ofNat (c5 + 2))), .val (.ref r0), .val (.int (Int32.ofNat n_r0)), .val (.int (Int32.ofNat i)), .val (.int (v_r0 i))] [(.int (Int32.ofNat (c5 + 1))), (.ref bw)]))
        refine Goes.go (fun _ kst => XS.iloadN X25.here hx rfl (hb hby d1_73) rfl  kst) ?_
        show Goes p e below s _ _ _ (T25.setTop (mkF m 74 #[.val (.ref r0), .val (.ref bw), .val (.int (Int32.ofNat (own_B v_r0 (i + 1) % 2 ^ (2 + 8)))), .val (.int (0 : Int32)), .val (.int (Int32.ofNat (c5 + 2))), .val (.ref r0), .val (.int (Int32.ofNat n_r0)), .val (.int (Int32.ofNat i)), .val (.int (v_r0 i))] [(.int (Int32.ofNat (own_B v_r0 (i + 1) % 2 ^ (2 + 8)))), (.int (Int32.ofNat (c5 + 1))), (.ref bw)]))
        refine Goes.go (fun _ kst => XS.iloadN X25.here hx rfl (hb hby d1_74) rfl  kst) ?_
        show Goes p e below s _ _ _ (T25.setTop (mkF m 75 #[.val (.ref r0), .val (.ref bw), .val (.int (Int32.ofNat (own_B v_r0 (i + 1) % 2 ^ (2 + 8)))), .val (.int (0 : Int32)), .val (.int (Int32.ofNat (c5 + 2))), .val (.ref r0), .val (.int (Int32.ofNat n_r0)), .val (.int (Int32.ofNat i)), .val (.int (v_r0 i))] [(.int (0 : Int32)), (.int (Int32.ofNat (own_B v_r0 (i + 1) % 2 ^ (2 + 8)))), (.int (Int32.ofNat (c5 + 1))), (.ref bw)]))
        refine Goes.go (fun _ kst => XS.iushr X25.here hx rfl (hb hby d1_75) rfl kst) ?_
        show Goes p e below s _ _ _ (T25.setTop (mkF m 76 #[.val (.ref r0), .val (.ref bw), .val (.int (Int32.ofNat (own_B v_r0 (i + 1) % 2 ^ (2 + 8)))), .val (.int (0 : Int32)), .val (.int (Int32.ofNat (c5 + 2))), .val (.ref r0), .val (.int (Int32.ofNat n_r0)), .val (.int (Int32.ofNat i)), .val (.int (v_r0 i))] [(.int (((Int32.ofNat (own_B v_r0 (i + 1) % 2 ^ (2 + 8))).toUInt32 >>> ((0 : Int32) &&& 31).toUInt32).toInt32)), (.int (Int32.ofNat (c5 + 1))), (.ref bw)]))
        refine Goes.go (fun _ kst => XS.bipush X25.here hx rfl (hb hby d1_76) kst) ?_
        show Goes p e below s _ _ _ (T25.setTop (mkF m 78 #[.val (.ref r0), .val (.ref bw), .val (.int (Int32.ofNat (own_B v_r0 (i + 1) % 2 ^ (2 + 8)))), .val (.int (0 : Int32)), .val (.int (Int32.ofNat (c5 + 2))), .val (.ref r0), .val (.int (Int32.ofNat n_r0)), .val (.int (Int32.ofNat i)), .val (.int (v_r0 i))] [(.int (31 : Int32)), (.int (((Int32.ofNat (own_B v_r0 (i + 1) % 2 ^ (2 + 8))).toUInt32 >>> ((0 : Int32) &&& 31).toUInt32).toInt32)), (.int (Int32.ofNat (c5 + 1))), (.ref bw)]))
        refine Goes.go (fun _ kst => XS.iand X25.here hx rfl (hb hby d1_78) rfl kst) ?_
        rw [show ((((Int32.ofNat (own_B v_r0 (i + 1) % 2 ^ (2 + 8))).toUInt32 >>> ((0 : Int32) &&& 31).toUInt32).toInt32) &&& (31 : Int32)) = (Int32.ofNat (own_B v_r0 (i + 1) % 2 ^ (2 + 8) / 2 ^ 0 % 32)) from own_sh hA (by decide) (by decide)]
        show Goes p e below s _ _ _ (T25.setTop (mkF m 79 #[.val (.ref r0), .val (.ref bw), .val (.int (Int32.ofNat (own_B v_r0 (i + 1) % 2 ^ (2 + 8)))), .val (.int (0 : Int32)), .val (.int (Int32.ofNat (c5 + 2))), .val (.ref r0), .val (.int (Int32.ofNat n_r0)), .val (.int (Int32.ofNat i)), .val (.int (v_r0 i))] [(.int (Int32.ofNat (own_B v_r0 (i + 1) % 2 ^ (2 + 8) / 2 ^ 0 % 32))), (.int (Int32.ofNat (c5 + 1))), (.ref bw)]))
        obtain ⟨T27, h27, X27, e27, W27, A27, st27⟩ := own_stI X25 hx hZ e25 A25 (i := (c5 + 1)) rfl (by omega) (g := (mkF m 79 #[.val (.ref r0), .val (.ref bw), .val (.int (Int32.ofNat (own_B v_r0 (i + 1) % 2 ^ (2 + 8)))), .val (.int (0 : Int32)), .val (.int (Int32.ofNat (c5 + 2))), .val (.ref r0), .val (.int (Int32.ofNat n_r0)), .val (.int (Int32.ofNat i)), .val (.int (v_r0 i))] [(.int (Int32.ofNat (own_B v_r0 (i + 1) % 2 ^ (2 + 8) / 2 ^ 0 % 32))), (.int (Int32.ofNat (c5 + 1))), (.ref bw)])) rfl rfl (hb hby d1_79)
        have N27 := Fr.snoc X27 N25 gw
        have Z27 := Nat.le_trans Z25 (Keep.of_wr W27).1
        have K27 := Keep.wr K25 W27 (Or.inr sw)
        refine Goes.go st27 ?_
        show Goes p e below s _ _ _ (T27.setTop (mkF m 80 #[.val (.ref r0), .val (.ref bw), .val (.int (Int32.ofNat (own_B v_r0 (i + 1) % 2 ^ (2 + 8)))), .val (.int (0 : Int32)), .val (.int (Int32.ofNat (c5 + 2))), .val (.ref r0), .val (.int (Int32.ofNat n_r0)), .val (.int (Int32.ofNat i)), .val (.int (v_r0 i))] []))
        refine Goes.go (fun _ kst => XS.goto X27.here hx rfl (pc0 := 80) (pc' := 59) rfl (hb hby d1_80) (by decide) (by decide) kst) ?_
        show Goes p e below s _ _ _ (T27.setTop (mkF m 59 #[.val (.ref r0), .val (.ref bw), .val (.int (Int32.ofNat (own_B v_r0 (i + 1) % 2 ^ (2 + 8)))), .val (.int (0 : Int32)), .val (.int (Int32.ofNat (c5 + 2))), .val (.ref r0), .val (.int (Int32.ofNat n_r0)), .val (.int (Int32.ofNat i)), .val (.int (v_r0 i))] []))
        refine Goes.go (fun _ kst => XS.iloadN X27.here hx rfl (hb hby d1_59) rfl  kst) ?_
        show Goes p e below s _ _ _ (T27.setTop (mkF m 60 #[.val (.ref r0), .val (.ref bw), .val (.int (Int32.ofNat (own_B v_r0 (i + 1) % 2 ^ (2 + 8)))), .val (.int (0 : Int32)), .val (.int (Int32.ofNat (c5 + 2))), .val (.ref r0), .val (.int (Int32.ofNat n_r0)), .val (.int (Int32.ofNat i)), .val (.int (v_r0 i))] [(.int (0 : Int32))]))
        refine Goes.go (fun _ kst => XS.iconst X27.here hx rfl (hb hby d1_60) kst) ?_
        show Goes p e below s _ _ _ (T27.setTop (mkF m 61 #[.val (.ref r0), .val (.ref bw), .val (.int (Int32.ofNat (own_B v_r0 (i + 1) % 2 ^ (2 + 8)))), .val (.int (0 : Int32)), .val (.int (Int32.ofNat (c5 + 2))), .val (.ref r0), .val (.int (Int32.ofNat n_r0)), .val (.int (Int32.ofNat i)), .val (.int (v_r0 i))] [(.int (5 : Int32)), (.int (0 : Int32))]))
        have hc61_28 : (0 : Int32) < (5 : Int32) := (by decide)
        refine Goes.go (fun _ kst => XS.icmpYes X27.here hx rfl (pc0 := 61) (pc' := 83) rfl (hb hby d1_61) rfl (tlt hc61_28).1 (by decide) (by decide) kst) ?_
        show Goes p e below s _ _ _ (T27.setTop (mkF m 83 #[.val (.ref r0), .val (.ref bw), .val (.int (Int32.ofNat (own_B v_r0 (i + 1) % 2 ^ (2 + 8)))), .val (.int (0 : Int32)), .val (.int (Int32.ofNat (c5 + 2))), .val (.ref r0), .val (.int (Int32.ofNat n_r0)), .val (.int (Int32.ofNat i)), .val (.int (v_r0 i))] []))
        refine Goes.go (fun _ kst => XS.iloadN X27.here hx rfl (hb hby d1_83) rfl  kst) ?_
        show Goes p e below s _ _ _ (T27.setTop (mkF m 84 #[.val (.ref r0), .val (.ref bw), .val (.int (Int32.ofNat (own_B v_r0 (i + 1) % 2 ^ (2 + 8)))), .val (.int (0 : Int32)), .val (.int (Int32.ofNat (c5 + 2))), .val (.ref r0), .val (.int (Int32.ofNat n_r0)), .val (.int (Int32.ofNat i)), .val (.int (v_r0 i))] [(.int (Int32.ofNat (own_B v_r0 (i + 1) % 2 ^ (2 + 8))))]))
        refine Goes.go (fun _ kst => XS.iconst X27.here hx rfl (hb hby d1_84) kst) ?_
        show Goes p e below s _ _ _ (T27.setTop (mkF m 85 #[.val (.ref r0), .val (.ref bw), .val (.int (Int32.ofNat (own_B v_r0 (i + 1) % 2 ^ (2 + 8)))), .val (.int (0 : Int32)), .val (.int (Int32.ofNat (c5 + 2))), .val (.ref r0), .val (.int (Int32.ofNat n_r0)), .val (.int (Int32.ofNat i)), .val (.int (v_r0 i))] [(.int (1 : Int32)), (.int (Int32.ofNat (own_B v_r0 (i + 1) % 2 ^ (2 + 8))))]))
        refine Goes.go (fun _ kst => XS.iloadN X27.here hx rfl (hb hby d1_85) rfl  kst) ?_
        show Goes p e below s _ _ _ (T27.setTop (mkF m 86 #[.val (.ref r0), .val (.ref bw), .val (.int (Int32.ofNat (own_B v_r0 (i + 1) % 2 ^ (2 + 8)))), .val (.int (0 : Int32)), .val (.int (Int32.ofNat (c5 + 2))), .val (.ref r0), .val (.int (Int32.ofNat n_r0)), .val (.int (Int32.ofNat i)), .val (.int (v_r0 i))] [(.int (0 : Int32)), (.int (1 : Int32)), (.int (Int32.ofNat (own_B v_r0 (i + 1) % 2 ^ (2 + 8))))]))
        refine Goes.go (fun _ kst => XS.ishl X27.here hx rfl (hb hby d1_86) rfl kst) ?_
        show Goes p e below s _ _ _ (T27.setTop (mkF m 87 #[.val (.ref r0), .val (.ref bw), .val (.int (Int32.ofNat (own_B v_r0 (i + 1) % 2 ^ (2 + 8)))), .val (.int (0 : Int32)), .val (.int (Int32.ofNat (c5 + 2))), .val (.ref r0), .val (.int (Int32.ofNat n_r0)), .val (.int (Int32.ofNat i)), .val (.int (v_r0 i))] [(.int ((1 : Int32) <<< ((0 : Int32) &&& 31))), (.int (Int32.ofNat (own_B v_r0 (i + 1) % 2 ^ (2 + 8))))]))
        refine Goes.go (fun _ kst => XS.iconst X27.here hx rfl (hb hby d1_87) kst) ?_
        show Goes p e below s _ _ _ (T27.setTop (mkF m 88 #[.val (.ref r0), .val (.ref bw), .val (.int (Int32.ofNat (own_B v_r0 (i + 1) % 2 ^ (2 + 8)))), .val (.int (0 : Int32)), .val (.int (Int32.ofNat (c5 + 2))), .val (.ref r0), .val (.int (Int32.ofNat n_r0)), .val (.int (Int32.ofNat i)), .val (.int (v_r0 i))] [(.int (1 : Int32)), (.int ((1 : Int32) <<< ((0 : Int32) &&& 31))), (.int (Int32.ofNat (own_B v_r0 (i + 1) % 2 ^ (2 + 8))))]))
        refine Goes.go (fun _ kst => XS.isub X27.here hx rfl (hb hby d1_88) rfl kst) ?_
        show Goes p e below s _ _ _ (T27.setTop (mkF m 89 #[.val (.ref r0), .val (.ref bw), .val (.int (Int32.ofNat (own_B v_r0 (i + 1) % 2 ^ (2 + 8)))), .val (.int (0 : Int32)), .val (.int (Int32.ofNat (c5 + 2))), .val (.ref r0), .val (.int (Int32.ofNat n_r0)), .val (.int (Int32.ofNat i)), .val (.int (v_r0 i))] [(.int (((1 : Int32) <<< ((0 : Int32) &&& 31)) - (1 : Int32))), (.int (Int32.ofNat (own_B v_r0 (i + 1) % 2 ^ (2 + 8))))]))
        refine Goes.go (fun _ kst => XS.iand X27.here hx rfl (hb hby d1_89) rfl kst) ?_
        rw [show ((Int32.ofNat (own_B v_r0 (i + 1) % 2 ^ (2 + 8))) &&& (((1 : Int32) <<< ((0 : Int32) &&& 31)) - (1 : Int32))) = (Int32.ofNat (own_B v_r0 (i + 1) % 2 ^ (2 + 8) % 2 ^ 0)) from own_mk hA (by decide) (by decide)]
        rw [own_mm (b := 2) (k := 0) (by decide)]
        show Goes p e below s _ _ _ (T27.setTop (mkF m 90 #[.val (.ref r0), .val (.ref bw), .val (.int (Int32.ofNat (own_B v_r0 (i + 1) % 2 ^ (2 + 8)))), .val (.int (0 : Int32)), .val (.int (Int32.ofNat (c5 + 2))), .val (.ref r0), .val (.int (Int32.ofNat n_r0)), .val (.int (Int32.ofNat i)), .val (.int (v_r0 i))] [(.int (Int32.ofNat (own_B v_r0 (i + 1) % 2 ^ 0)))]))
        refine Goes.go (fun _ kst => XS.istoreN X27.here hx rfl (hb hby d1_90) rfl (l' := #[.val (.ref r0), .val (.ref bw), .val (.int (Int32.ofNat (own_B v_r0 (i + 1) % 2 ^ 0))), .val (.int (0 : Int32)), .val (.int (Int32.ofNat (c5 + 2))), .val (.ref r0), .val (.int (Int32.ofNat n_r0)), .val (.int (Int32.ofNat i)), .val (.int (v_r0 i))]) rfl kst) ?_
        show Goes p e below s _ _ _ (T27.setTop (mkF m 91 #[.val (.ref r0), .val (.ref bw), .val (.int (Int32.ofNat (own_B v_r0 (i + 1) % 2 ^ 0))), .val (.int (0 : Int32)), .val (.int (Int32.ofNat (c5 + 2))), .val (.ref r0), .val (.int (Int32.ofNat n_r0)), .val (.int (Int32.ofNat i)), .val (.int (v_r0 i))] []))
        refine Goes.go (fun _ kst => XS.iinc X27.here hx rfl (hb hby d1_91) rfl (l' := #[.val (.ref r0), .val (.ref bw), .val (.int (Int32.ofNat (own_B v_r0 (i + 1) % 2 ^ 0))), .val (.int (0 : Int32)), .val (.int (Int32.ofNat (c5 + 2))), .val (.ref r0), .val (.int (Int32.ofNat n_r0)), .val (.int ((Int32.ofNat i) + (1 : Int32))), .val (.int (v_r0 i))]) rfl kst) ?_
        rw [show (Int32.ofNat i + (1 : Int32)) = Int32.ofNat (i + 1) from own_add (n := 1) (by omega)]
        show Goes p e below s _ _ _ (T27.setTop (mkF m 94 #[.val (.ref r0), .val (.ref bw), .val (.int (Int32.ofNat (own_B v_r0 (i + 1) % 2 ^ 0))), .val (.int (0 : Int32)), .val (.int (Int32.ofNat (c5 + 2))), .val (.ref r0), .val (.int (Int32.ofNat n_r0)), .val (.int (Int32.ofNat (i + 1))), .val (.int (v_r0 i))] []))
        refine Goes.go (fun _ kst => XS.goto X27.here hx rfl (pc0 := 94) (pc' := 30) rfl (hb hby d1_94) (by decide) (by decide) kst) ?_
        exact ih (i + 1) 0 (c5 + 2) _ bw X27 e27 N27 Z27 K27 ((A27).as (fun k _ => own_F2 (b := 2) hc hbv (by decide) (by omega) k)) gw sw n0w (One.val rfl) (by omega) (by omega) (by omega)
      · skip
        show Goes p e below s _ _ _ (TJ.setTop (mkF m 30 #[.val (.ref r0), .val (.ref bw), .val (.int (Int32.ofNat (own_B v_r0 i % 2 ^ 3))), .val (.int (3 : Int32)), .val (.int (Int32.ofNat c5)), .val (.ref r0), .val (.int (Int32.ofNat n_r0)), .val (.int (Int32.ofNat i)), s8] []))
        refine Goes.go (fun _ kst => XS.iload XJ.here hx rfl (hb hby d1_30) rfl  kst) ?_
        show Goes p e below s _ _ _ (TJ.setTop (mkF m 32 #[.val (.ref r0), .val (.ref bw), .val (.int (Int32.ofNat (own_B v_r0 i % 2 ^ 3))), .val (.int (3 : Int32)), .val (.int (Int32.ofNat c5)), .val (.ref r0), .val (.int (Int32.ofNat n_r0)), .val (.int (Int32.ofNat i)), s8] [(.int (Int32.ofNat i))]))
        refine Goes.go (fun _ kst => XS.iload XJ.here hx rfl (hb hby d1_32) rfl  kst) ?_
        show Goes p e below s _ _ _ (TJ.setTop (mkF m 34 #[.val (.ref r0), .val (.ref bw), .val (.int (Int32.ofNat (own_B v_r0 i % 2 ^ 3))), .val (.int (3 : Int32)), .val (.int (Int32.ofNat c5)), .val (.ref r0), .val (.int (Int32.ofNat n_r0)), .val (.int (Int32.ofNat i)), s8] [(.int (Int32.ofNat n_r0)), (.int (Int32.ofNat i))]))
        have hc34_29 : (Int32.ofNat i) < (Int32.ofNat n_r0) := (own_lt (by omega) (by omega)).mpr (by omega)
        refine Goes.go (fun _ kst => XS.icmpNo XJ.here hx rfl (hb hby d1_34) rfl (tlt hc34_29).2.1 kst) ?_
        show Goes p e below s _ _ _ (TJ.setTop (mkF m 37 #[.val (.ref r0), .val (.ref bw), .val (.int (Int32.ofNat (own_B v_r0 i % 2 ^ 3))), .val (.int (3 : Int32)), .val (.int (Int32.ofNat c5)), .val (.ref r0), .val (.int (Int32.ofNat n_r0)), .val (.int (Int32.ofNat i)), s8] []))
        refine Goes.go (fun _ kst => XS.aload XJ.here hx rfl (hb hby d1_37) rfl rfl  kst) ?_
        show Goes p e below s _ _ _ (TJ.setTop (mkF m 39 #[.val (.ref r0), .val (.ref bw), .val (.int (Int32.ofNat (own_B v_r0 i % 2 ^ 3))), .val (.int (3 : Int32)), .val (.int (Int32.ofNat c5)), .val (.ref r0), .val (.int (Int32.ofNat n_r0)), .val (.int (Int32.ofNat i)), s8] [(.ref r0)]))
        refine Goes.go (fun _ kst => XS.iload XJ.here hx rfl (hb hby d1_39) rfl  kst) ?_
        show Goes p e below s _ _ _ (TJ.setTop (mkF m 41 #[.val (.ref r0), .val (.ref bw), .val (.int (Int32.ofNat (own_B v_r0 i % 2 ^ 3))), .val (.int (3 : Int32)), .val (.int (Int32.ofNat c5)), .val (.ref r0), .val (.int (Int32.ofNat n_r0)), .val (.int (Int32.ofNat i)), s8] [(.int (Int32.ofNat i)), (.ref r0)]))
        refine Goes.go (own_ldB XJ hx hZ eJ A0 (i := i) rfl (by omega) (g := (mkF m 41 #[.val (.ref r0), .val (.ref bw), .val (.int (Int32.ofNat (own_B v_r0 i % 2 ^ 3))), .val (.int (3 : Int32)), .val (.int (Int32.ofNat c5)), .val (.ref r0), .val (.int (Int32.ofNat n_r0)), .val (.int (Int32.ofNat i)), s8] [(.int (Int32.ofNat i)), (.ref r0)])) rfl rfl (hb hby d1_41)) ?_
        show Goes p e below s _ _ _ (TJ.setTop (mkF m 42 #[.val (.ref r0), .val (.ref bw), .val (.int (Int32.ofNat (own_B v_r0 i % 2 ^ 3))), .val (.int (3 : Int32)), .val (.int (Int32.ofNat c5)), .val (.ref r0), .val (.int (Int32.ofNat n_r0)), .val (.int (Int32.ofNat i)), s8] [(.int (v_r0 i))]))
        refine Goes.go (fun _ kst => XS.istore XJ.here hx rfl (hb hby d1_42) rfl (l' := #[.val (.ref r0), .val (.ref bw), .val (.int (Int32.ofNat (own_B v_r0 i % 2 ^ 3))), .val (.int (3 : Int32)), .val (.int (Int32.ofNat c5)), .val (.ref r0), .val (.int (Int32.ofNat n_r0)), .val (.int (Int32.ofNat i)), .val (.int (v_r0 i))]) (XS.store1 rfl hs8 rfl) kst) ?_
        show Goes p e below s _ _ _ (TJ.setTop (mkF m 44 #[.val (.ref r0), .val (.ref bw), .val (.int (Int32.ofNat (own_B v_r0 i % 2 ^ 3))), .val (.int (3 : Int32)), .val (.int (Int32.ofNat c5)), .val (.ref r0), .val (.int (Int32.ofNat n_r0)), .val (.int (Int32.ofNat i)), .val (.int (v_r0 i))] []))
        refine Goes.go (fun _ kst => XS.iloadN XJ.here hx rfl (hb hby d1_44) rfl  kst) ?_
        show Goes p e below s _ _ _ (TJ.setTop (mkF m 45 #[.val (.ref r0), .val (.ref bw), .val (.int (Int32.ofNat (own_B v_r0 i % 2 ^ 3))), .val (.int (3 : Int32)), .val (.int (Int32.ofNat c5)), .val (.ref r0), .val (.int (Int32.ofNat n_r0)), .val (.int (Int32.ofNat i)), .val (.int (v_r0 i))] [(.int (Int32.ofNat (own_B v_r0 i % 2 ^ 3)))]))
        refine Goes.go (fun _ kst => XS.bipush XJ.here hx rfl (hb hby d1_45) kst) ?_
        show Goes p e below s _ _ _ (TJ.setTop (mkF m 47 #[.val (.ref r0), .val (.ref bw), .val (.int (Int32.ofNat (own_B v_r0 i % 2 ^ 3))), .val (.int (3 : Int32)), .val (.int (Int32.ofNat c5)), .val (.ref r0), .val (.int (Int32.ofNat n_r0)), .val (.int (Int32.ofNat i)), .val (.int (v_r0 i))] [(.int (8 : Int32)), (.int (Int32.ofNat (own_B v_r0 i % 2 ^ 3)))]))
        refine Goes.go (fun _ kst => XS.ishl XJ.here hx rfl (hb hby d1_47) rfl kst) ?_
        show Goes p e below s _ _ _ (TJ.setTop (mkF m 48 #[.val (.ref r0), .val (.ref bw), .val (.int (Int32.ofNat (own_B v_r0 i % 2 ^ 3))), .val (.int (3 : Int32)), .val (.int (Int32.ofNat c5)), .val (.ref r0), .val (.int (Int32.ofNat n_r0)), .val (.int (Int32.ofNat i)), .val (.int (v_r0 i))] [(.int ((Int32.ofNat (own_B v_r0 i % 2 ^ 3)) <<< ((8 : Int32) &&& 31)))]))
        refine Goes.go (fun _ kst => XS.iload XJ.here hx rfl (hb hby d1_48) rfl  kst) ?_
        show Goes p e below s _ _ _ (TJ.setTop (mkF m 50 #[.val (.ref r0), .val (.ref bw), .val (.int (Int32.ofNat (own_B v_r0 i % 2 ^ 3))), .val (.int (3 : Int32)), .val (.int (Int32.ofNat c5)), .val (.ref r0), .val (.int (Int32.ofNat n_r0)), .val (.int (Int32.ofNat i)), .val (.int (v_r0 i))] [(.int (v_r0 i)), (.int ((Int32.ofNat (own_B v_r0 i % 2 ^ 3)) <<< ((8 : Int32) &&& 31)))]))
        refine Goes.go (fun _ kst => XS.sipush XJ.here hx rfl (hb hby d1_50) kst) ?_
        show Goes p e below s _ _ _ (TJ.setTop (mkF m 53 #[.val (.ref r0), .val (.ref bw), .val (.int (Int32.ofNat (own_B v_r0 i % 2 ^ 3))), .val (.int (3 : Int32)), .val (.int (Int32.ofNat c5)), .val (.ref r0), .val (.int (Int32.ofNat n_r0)), .val (.int (Int32.ofNat i)), .val (.int (v_r0 i))] [(.int (255 : Int32)), (.int (v_r0 i)), (.int ((Int32.ofNat (own_B v_r0 i % 2 ^ 3)) <<< ((8 : Int32) &&& 31)))]))
        refine Goes.go (fun _ kst => XS.iand XJ.here hx rfl (hb hby d1_53) rfl kst) ?_
        show Goes p e below s _ _ _ (TJ.setTop (mkF m 54 #[.val (.ref r0), .val (.ref bw), .val (.int (Int32.ofNat (own_B v_r0 i % 2 ^ 3))), .val (.int (3 : Int32)), .val (.int (Int32.ofNat c5)), .val (.ref r0), .val (.int (Int32.ofNat n_r0)), .val (.int (Int32.ofNat i)), .val (.int (v_r0 i))] [(.int ((v_r0 i) &&& (255 : Int32))), (.int ((Int32.ofNat (own_B v_r0 i % 2 ^ 3)) <<< ((8 : Int32) &&& 31)))]))
        refine Goes.go (fun _ kst => XS.ior XJ.here hx rfl (hb hby d1_54) rfl kst) ?_
        rw [show (((Int32.ofNat (own_B v_r0 i % 2 ^ 3)) <<< ((8 : Int32) &&& 31)) ||| ((v_r0 i) &&& (255 : Int32))) = Int32.ofNat (own_B v_r0 i % 2 ^ 3 * 256 + own_ub (v_r0 i)) from own_acc _ (hB 3 (by decide))]
        rw [own_A 3]
        have hA : own_B v_r0 (i + 1) % 2 ^ (3 + 8) < 4096 := Nat.lt_of_lt_of_le (Nat.mod_lt _ (Nat.pow_pos (by decide))) (by decide)
        show Goes p e below s _ _ _ (TJ.setTop (mkF m 55 #[.val (.ref r0), .val (.ref bw), .val (.int (Int32.ofNat (own_B v_r0 i % 2 ^ 3))), .val (.int (3 : Int32)), .val (.int (Int32.ofNat c5)), .val (.ref r0), .val (.int (Int32.ofNat n_r0)), .val (.int (Int32.ofNat i)), .val (.int (v_r0 i))] [(.int (Int32.ofNat (own_B v_r0 (i + 1) % 2 ^ (3 + 8))))]))
        refine Goes.go (fun _ kst => XS.istoreN XJ.here hx rfl (hb hby d1_55) rfl (l' := #[.val (.ref r0), .val (.ref bw), .val (.int (Int32.ofNat (own_B v_r0 (i + 1) % 2 ^ (3 + 8)))), .val (.int (3 : Int32)), .val (.int (Int32.ofNat c5)), .val (.ref r0), .val (.int (Int32.ofNat n_r0)), .val (.int (Int32.ofNat i)), .val (.int (v_r0 i))]) rfl kst) ?_
        show Goes p e below s _ _ _ (TJ.setTop (mkF m 56 #[.val (.ref r0), .val (.ref bw), .val (.int (Int32.ofNat (own_B v_r0 (i + 1) % 2 ^ (3 + 8)))), .val (.int (3 : Int32)), .val (.int (Int32.ofNat c5)), .val (.ref r0), .val (.int (Int32.ofNat n_r0)), .val (.int (Int32.ofNat i)), .val (.int (v_r0 i))] []))
        refine Goes.go (fun _ kst => XS.iinc XJ.here hx rfl (hb hby d1_56) rfl (l' := #[.val (.ref r0), .val (.ref bw), .val (.int (Int32.ofNat (own_B v_r0 (i + 1) % 2 ^ (3 + 8)))), .val (.int ((3 : Int32) + (8 : Int32))), .val (.int (Int32.ofNat c5)), .val (.ref r0), .val (.int (Int32.ofNat n_r0)), .val (.int (Int32.ofNat i)), .val (.int (v_r0 i))]) rfl kst) ?_
        rw [show ((3 : Int32) + (8 : Int32)) = (11 : Int32) from by decide]
        show Goes p e below s _ _ _ (TJ.setTop (mkF m 59 #[.val (.ref r0), .val (.ref bw), .val (.int (Int32.ofNat (own_B v_r0 (i + 1) % 2 ^ (3 + 8)))), .val (.int (11 : Int32)), .val (.int (Int32.ofNat c5)), .val (.ref r0), .val (.int (Int32.ofNat n_r0)), .val (.int (Int32.ofNat i)), .val (.int (v_r0 i))] []))
        refine Goes.go (fun _ kst => XS.iloadN XJ.here hx rfl (hb hby d1_59) rfl  kst) ?_
        show Goes p e below s _ _ _ (TJ.setTop (mkF m 60 #[.val (.ref r0), .val (.ref bw), .val (.int (Int32.ofNat (own_B v_r0 (i + 1) % 2 ^ (3 + 8)))), .val (.int (11 : Int32)), .val (.int (Int32.ofNat c5)), .val (.ref r0), .val (.int (Int32.ofNat n_r0)), .val (.int (Int32.ofNat i)), .val (.int (v_r0 i))] [(.int (11 : Int32))]))
        refine Goes.go (fun _ kst => XS.iconst XJ.here hx rfl (hb hby d1_60) kst) ?_
        show Goes p e below s _ _ _ (TJ.setTop (mkF m 61 #[.val (.ref r0), .val (.ref bw), .val (.int (Int32.ofNat (own_B v_r0 (i + 1) % 2 ^ (3 + 8)))), .val (.int (11 : Int32)), .val (.int (Int32.ofNat c5)), .val (.ref r0), .val (.int (Int32.ofNat n_r0)), .val (.int (Int32.ofNat i)), .val (.int (v_r0 i))] [(.int (5 : Int32)), (.int (11 : Int32))]))
        have hc61_30 : ¬ ((11 : Int32) < (5 : Int32)) := (by decide)
        refine Goes.go (fun _ kst => XS.icmpNo XJ.here hx rfl (hb hby d1_61) rfl (flt hc61_30).1 kst) ?_
        show Goes p e below s _ _ _ (TJ.setTop (mkF m 64 #[.val (.ref r0), .val (.ref bw), .val (.int (Int32.ofNat (own_B v_r0 (i + 1) % 2 ^ (3 + 8)))), .val (.int (11 : Int32)), .val (.int (Int32.ofNat c5)), .val (.ref r0), .val (.int (Int32.ofNat n_r0)), .val (.int (Int32.ofNat i)), .val (.int (v_r0 i))] []))
        refine Goes.go (fun _ kst => XS.iinc XJ.here hx rfl (hb hby d1_64) rfl (l' := #[.val (.ref r0), .val (.ref bw), .val (.int (Int32.ofNat (own_B v_r0 (i + 1) % 2 ^ (3 + 8)))), .val (.int ((11 : Int32) + (-5 : Int32))), .val (.int (Int32.ofNat c5)), .val (.ref r0), .val (.int (Int32.ofNat n_r0)), .val (.int (Int32.ofNat i)), .val (.int (v_r0 i))]) rfl kst) ?_
        rw [show ((11 : Int32) + (-5 : Int32)) = (6 : Int32) from by decide]
        show Goes p e below s _ _ _ (TJ.setTop (mkF m 67 #[.val (.ref r0), .val (.ref bw), .val (.int (Int32.ofNat (own_B v_r0 (i + 1) % 2 ^ (3 + 8)))), .val (.int (6 : Int32)), .val (.int (Int32.ofNat c5)), .val (.ref r0), .val (.int (Int32.ofNat n_r0)), .val (.int (Int32.ofNat i)), .val (.int (v_r0 i))] []))
        refine Goes.go (fun _ kst => XS.aloadN XJ.here hx rfl (hb hby d1_67) rfl rfl  kst) ?_
        show Goes p e below s _ _ _ (TJ.setTop (mkF m 68 #[.val (.ref r0), .val (.ref bw), .val (.int (Int32.ofNat (own_B v_r0 (i + 1) % 2 ^ (3 + 8)))), .val (.int (6 : Int32)), .val (.int (Int32.ofNat c5)), .val (.ref r0), .val (.int (Int32.ofNat n_r0)), .val (.int (Int32.ofNat i)), .val (.int (v_r0 i))] [(.ref bw)]))
        refine Goes.go (fun _ kst => XS.iload XJ.here hx rfl (hb hby d1_68) rfl  kst) ?_
        show Goes p e below s _ _ _ (TJ.setTop (mkF m 70 #[.val (.ref r0), .val (.ref bw), .val (.int (Int32.ofNat (own_B v_r0 (i + 1) % 2 ^ (3 + 8)))), .val (.int (6 : Int32)), .val (.int (Int32.ofNat c5)), .val (.ref r0), .val (.int (Int32.ofNat n_r0)), .val (.int (Int32.ofNat i)), .val (.int (v_r0 i))] [(.int (Int32.ofNat c5)), (.ref bw)]))
        refine Goes.go (fun _ kst => XS.iinc XJ.here hx rfl (hb hby d1_70) rfl (l' := #[.val (.ref r0), .val (.ref bw), .val (.int (Int32.ofNat (own_B v_r0 (i + 1) % 2 ^ (3 + 8)))), .val (.int (6 : Int32)), .val (.int ((Int32.ofNat c5) + (1 : Int32))), .val (.ref r0), .val (.int (Int32.ofNat n_r0)), .val (.int (Int32.ofNat i)), .val (.int (v_r0 i))]) rfl kst) ?_
        rw [show (Int32.ofNat c5 + (1 : Int32)) = Int32.ofNat (c5 + 1) from own_add (n := 1) (by omega)]
        show Goes p e below s _ _ _ (TJ.setTop (mkF m 73 #[.val (.ref r0), .val (.ref bw), .val (.int (Int32.ofNat (own_B v_r0 (i + 1) % 2 ^ (3 + 8)))), .val (.int (6 : Int32)), .val (.int (Int32.ofNat (c5 + 1))), .val (.ref r0), .val (.int (Int32.ofNat n_r0)), .val (.int (Int32.ofNat i)), .val (.int (v_r0 i))] [(.int (Int32.ofNat c5)), (.ref bw)]))
        refine Goes.go (fun _ kst => XS.iloadN XJ.here hx rfl (hb hby d1_73) rfl  kst) ?_
        show Goes p e below s _ _ _ (TJ.setTop (mkF m 74 #[.val (.ref r0), .val (.ref bw), .val (.int (Int32.ofNat (own_B v_r0 (i + 1) % 2 ^ (3 + 8)))), .val (.int (6 : Int32)), .val (.int (Int32.ofNat (c5 + 1))), .val (.ref r0), .val (.int (Int32.ofNat n_r0)), .val (.int (Int32.ofNat i)), .val (.int (v_r0 i))] [(.int (Int32.ofNat (own_B v_r0 (i + 1) % 2 ^ (3 + 8)))), (.int (Int32.ofNat c5)), (.ref bw)]))
        refine Goes.go (fun _ kst => XS.iloadN XJ.here hx rfl (hb hby d1_74) rfl  kst) ?_
        show Goes p e below s _ _ _ (TJ.setTop (mkF m 75 #[.val (.ref r0), .val (.ref bw), .val (.int (Int32.ofNat (own_B v_r0 (i + 1) % 2 ^ (3 + 8)))), .val (.int (6 : Int32)), .val (.int (Int32.ofNat (c5 + 1))), .val (.ref r0), .val (.int (Int32.ofNat n_r0)), .val (.int (Int32.ofNat i)), .val (.int (v_r0 i))] [(.int (6 : Int32)), (.int (Int32.ofNat (own_B v_r0 (i + 1) % 2 ^ (3 + 8)))), (.int (Int32.ofNat c5)), (.ref bw)]))
        refine Goes.go (fun _ kst => XS.iushr XJ.here hx rfl (hb hby d1_75) rfl kst) ?_
        show Goes p e below s _ _ _ (TJ.setTop (mkF m 76 #[.val (.ref r0), .val (.ref bw), .val (.int (Int32.ofNat (own_B v_r0 (i + 1) % 2 ^ (3 + 8)))), .val (.int (6 : Int32)), .val (.int (Int32.ofNat (c5 + 1))), .val (.ref r0), .val (.int (Int32.ofNat n_r0)), .val (.int (Int32.ofNat i)), .val (.int (v_r0 i))] [(.int (((Int32.ofNat (own_B v_r0 (i + 1) % 2 ^ (3 + 8))).toUInt32 >>> ((6 : Int32) &&& 31).toUInt32).toInt32)), (.int (Int32.ofNat c5)), (.ref bw)]))
        refine Goes.go (fun _ kst => XS.bipush XJ.here hx rfl (hb hby d1_76) kst) ?_
        show Goes p e below s _ _ _ (TJ.setTop (mkF m 78 #[.val (.ref r0), .val (.ref bw), .val (.int (Int32.ofNat (own_B v_r0 (i + 1) % 2 ^ (3 + 8)))), .val (.int (6 : Int32)), .val (.int (Int32.ofNat (c5 + 1))), .val (.ref r0), .val (.int (Int32.ofNat n_r0)), .val (.int (Int32.ofNat i)), .val (.int (v_r0 i))] [(.int (31 : Int32)), (.int (((Int32.ofNat (own_B v_r0 (i + 1) % 2 ^ (3 + 8))).toUInt32 >>> ((6 : Int32) &&& 31).toUInt32).toInt32)), (.int (Int32.ofNat c5)), (.ref bw)]))
        refine Goes.go (fun _ kst => XS.iand XJ.here hx rfl (hb hby d1_78) rfl kst) ?_
        rw [show ((((Int32.ofNat (own_B v_r0 (i + 1) % 2 ^ (3 + 8))).toUInt32 >>> ((6 : Int32) &&& 31).toUInt32).toInt32) &&& (31 : Int32)) = (Int32.ofNat (own_B v_r0 (i + 1) % 2 ^ (3 + 8) / 2 ^ 6 % 32)) from own_sh hA (by decide) (by decide)]
        show Goes p e below s _ _ _ (TJ.setTop (mkF m 79 #[.val (.ref r0), .val (.ref bw), .val (.int (Int32.ofNat (own_B v_r0 (i + 1) % 2 ^ (3 + 8)))), .val (.int (6 : Int32)), .val (.int (Int32.ofNat (c5 + 1))), .val (.ref r0), .val (.int (Int32.ofNat n_r0)), .val (.int (Int32.ofNat i)), .val (.int (v_r0 i))] [(.int (Int32.ofNat (own_B v_r0 (i + 1) % 2 ^ (3 + 8) / 2 ^ 6 % 32))), (.int (Int32.ofNat c5)), (.ref bw)]))
        obtain ⟨T31, h31, X31, e31, W31, A31, st31⟩ := own_stI XJ hx hZ eJ AW (i := c5) rfl (by omega) (g := (mkF m 79 #[.val (.ref r0), .val (.ref bw), .val (.int (Int32.ofNat (own_B v_r0 (i + 1) % 2 ^ (3 + 8)))), .val (.int (6 : Int32)), .val (.int (Int32.ofNat (c5 + 1))), .val (.ref r0), .val (.int (Int32.ofNat n_r0)), .val (.int (Int32.ofNat i)), .val (.int (v_r0 i))] [(.int (Int32.ofNat (own_B v_r0 (i + 1) % 2 ^ (3 + 8) / 2 ^ 6 % 32))), (.int (Int32.ofNat c5)), (.ref bw)])) rfl rfl (hb hby d1_79)
        have N31 := Fr.snoc X31 NJ gw
        have Z31 := Nat.le_trans ZJ (Keep.of_wr W31).1
        have K31 := Keep.wr KJ W31 (Or.inr sw)
        refine Goes.go st31 ?_
        show Goes p e below s _ _ _ (T31.setTop (mkF m 80 #[.val (.ref r0), .val (.ref bw), .val (.int (Int32.ofNat (own_B v_r0 (i + 1) % 2 ^ (3 + 8)))), .val (.int (6 : Int32)), .val (.int (Int32.ofNat (c5 + 1))), .val (.ref r0), .val (.int (Int32.ofNat n_r0)), .val (.int (Int32.ofNat i)), .val (.int (v_r0 i))] []))
        refine Goes.go (fun _ kst => XS.goto X31.here hx rfl (pc0 := 80) (pc' := 59) rfl (hb hby d1_80) (by decide) (by decide) kst) ?_
        show Goes p e below s _ _ _ (T31.setTop (mkF m 59 #[.val (.ref r0), .val (.ref bw), .val (.int (Int32.ofNat (own_B v_r0 (i + 1) % 2 ^ (3 + 8)))), .val (.int (6 : Int32)), .val (.int (Int32.ofNat (c5 + 1))), .val (.ref r0), .val (.int (Int32.ofNat n_r0)), .val (.int (Int32.ofNat i)), .val (.int (v_r0 i))] []))
        refine Goes.go (fun _ kst => XS.iloadN X31.here hx rfl (hb hby d1_59) rfl  kst) ?_
        show Goes p e below s _ _ _ (T31.setTop (mkF m 60 #[.val (.ref r0), .val (.ref bw), .val (.int (Int32.ofNat (own_B v_r0 (i + 1) % 2 ^ (3 + 8)))), .val (.int (6 : Int32)), .val (.int (Int32.ofNat (c5 + 1))), .val (.ref r0), .val (.int (Int32.ofNat n_r0)), .val (.int (Int32.ofNat i)), .val (.int (v_r0 i))] [(.int (6 : Int32))]))
        refine Goes.go (fun _ kst => XS.iconst X31.here hx rfl (hb hby d1_60) kst) ?_
        show Goes p e below s _ _ _ (T31.setTop (mkF m 61 #[.val (.ref r0), .val (.ref bw), .val (.int (Int32.ofNat (own_B v_r0 (i + 1) % 2 ^ (3 + 8)))), .val (.int (6 : Int32)), .val (.int (Int32.ofNat (c5 + 1))), .val (.ref r0), .val (.int (Int32.ofNat n_r0)), .val (.int (Int32.ofNat i)), .val (.int (v_r0 i))] [(.int (5 : Int32)), (.int (6 : Int32))]))
        have hc61_32 : ¬ ((6 : Int32) < (5 : Int32)) := (by decide)
        refine Goes.go (fun _ kst => XS.icmpNo X31.here hx rfl (hb hby d1_61) rfl (flt hc61_32).1 kst) ?_
        show Goes p e below s _ _ _ (T31.setTop (mkF m 64 #[.val (.ref r0), .val (.ref bw), .val (.int (Int32.ofNat (own_B v_r0 (i + 1) % 2 ^ (3 + 8)))), .val (.int (6 : Int32)), .val (.int (Int32.ofNat (c5 + 1))), .val (.ref r0), .val (.int (Int32.ofNat n_r0)), .val (.int (Int32.ofNat i)), .val (.int (v_r0 i))] []))
        refine Goes.go (fun _ kst => XS.iinc X31.here hx rfl (hb hby d1_64) rfl (l' := #[.val (.ref r0), .val (.ref bw), .val (.int (Int32.ofNat (own_B v_r0 (i + 1) % 2 ^ (3 + 8)))), .val (.int ((6 : Int32) + (-5 : Int32))), .val (.int (Int32.ofNat (c5 + 1))), .val (.ref r0), .val (.int (Int32.ofNat n_r0)), .val (.int (Int32.ofNat i)), .val (.int (v_r0 i))]) rfl kst) ?_
        rw [show ((6 : Int32) + (-5 : Int32)) = (1 : Int32) from by decide]
        show Goes p e below s _ _ _ (T31.setTop (mkF m 67 #[.val (.ref r0), .val (.ref bw), .val (.int (Int32.ofNat (own_B v_r0 (i + 1) % 2 ^ (3 + 8)))), .val (.int (1 : Int32)), .val (.int (Int32.ofNat (c5 + 1))), .val (.ref r0), .val (.int (Int32.ofNat n_r0)), .val (.int (Int32.ofNat i)), .val (.int (v_r0 i))] []))
        refine Goes.go (fun _ kst => XS.aloadN X31.here hx rfl (hb hby d1_67) rfl rfl  kst) ?_
        show Goes p e below s _ _ _ (T31.setTop (mkF m 68 #[.val (.ref r0), .val (.ref bw), .val (.int (Int32.ofNat (own_B v_r0 (i + 1) % 2 ^ (3 + 8)))), .val (.int (1 : Int32)), .val (.int (Int32.ofNat (c5 + 1))), .val (.ref r0), .val (.int (Int32.ofNat n_r0)), .val (.int (Int32.ofNat i)), .val (.int (v_r0 i))] [(.ref bw)]))
        refine Goes.go (fun _ kst => XS.iload X31.here hx rfl (hb hby d1_68) rfl  kst) ?_
        show Goes p e below s _ _ _ (T31.setTop (mkF m 70 #[.val (.ref r0), .val (.ref bw), .val (.int (Int32.ofNat (own_B v_r0 (i + 1) % 2 ^ (3 + 8)))), .val (.int (1 : Int32)), .val (.int (Int32.ofNat (c5 + 1))), .val (.ref r0), .val (.int (Int32.ofNat n_r0)), .val (.int (Int32.ofNat i)), .val (.int (v_r0 i))] [(.int (Int32.ofNat (c5 + 1))), (.ref bw)]))
        refine Goes.go (fun _ kst => XS.iinc X31.here hx rfl (hb hby d1_70) rfl (l' := #[.val (.ref r0), .val (.ref bw), .val (.int (Int32.ofNat (own_B v_r0 (i + 1) % 2 ^ (3 + 8)))), .val (.int (1 : Int32)), .val (.int ((Int32.ofNat (c5 + 1)) + (1 : Int32))), .val (.ref r0), .val (.int (Int32.ofNat n_r0)), .val (.int (Int32.ofNat i)), .val (.int (v_r0 i))]) rfl kst) ?_
        rw [show (Int32.ofNat (c5 + 1) + (1 : Int32)) = Int32.ofNat (c5 + 2) from own_add (n := 1) (by omega)]
        show Goes p e below s _ _ _ (T31.setTop (mkF m 73 #[.val (.ref r0), .val (.ref bw), .val (.int (Int32.ofNat (own_B v_r0 (i + 1) % 2 ^ (3 + 8)))), .val (.int (1 : Int32)), .val (.int (Int32.ofNat (c5 + 2))), .val (.ref r0), .val (.int (Int32.ofNat n_r0)), .val (.int (Int32.ofNat i)), .val (.int (v_r0 i))] [(.int (Int32.ofNat (c5 + 1))), (.ref bw)]))
        refine Goes.go (fun _ kst => XS.iloadN X31.here hx rfl (hb hby d1_73) rfl  kst) ?_
        show Goes p e below s _ _ _ (T31.setTop (mkF m 74 #[.val (.ref r0), .val (.ref bw), .val (.int (Int32.ofNat (own_B v_r0 (i + 1) % 2 ^ (3 + 8)))), .val (.int (1 : Int32)), .val (.int (Int32.ofNat (c5 + 2))), .val (.ref r0), .val (.int (Int32.ofNat n_r0)), .val (.int (Int32.ofNat i)), .val (.int (v_r0 i))] [(.int (Int32.ofNat (own_B v_r0 (i + 1) % 2 ^ (3 + 8)))), (.int (Int32.ofNat (c5 + 1))), (.ref bw)]))
        refine Goes.go (fun _ kst => XS.iloadN X31.here hx rfl (hb hby d1_74) rfl  kst) ?_
        show Goes p e below s _ _ _ (T31.setTop (mkF m 75 #[.val (.ref r0), .val (.ref bw), .val (.int (Int32.ofNat (own_B v_r0 (i + 1) % 2 ^ (3 + 8)))), .val (.int (1 : Int32)), .val (.int (Int32.ofNat (c5 + 2))), .val (.ref r0), .val (.int (Int32.ofNat n_r0)), .val (.int (Int32.ofNat i)), .val (.int (v_r0 i))] [(.int (1 : Int32)), (.int (Int32.ofNat (own_B v_r0 (i + 1) % 2 ^ (3 + 8)))), (.int (Int32.ofNat (c5 + 1))), (.ref bw)]))
        refine Goes.go (fun _ kst => XS.iushr X31.here hx rfl (hb hby d1_75) rfl kst) ?_
        show Goes p e below s _ _ _ (T31.setTop (mkF m 76 #[.val (.ref r0), .val (.ref bw), .val (.int (Int32.ofNat (own_B v_r0 (i + 1) % 2 ^ (3 + 8)))), .val (.int (1 : Int32)), .val (.int (Int32.ofNat (c5 + 2))), .val (.ref r0), .val (.int (Int32.ofNat n_r0)), .val (.int (Int32.ofNat i)), .val (.int (v_r0 i))] [(.int (((Int32.ofNat (own_B v_r0 (i + 1) % 2 ^ (3 + 8))).toUInt32 >>> ((1 : Int32) &&& 31).toUInt32).toInt32)), (.int (Int32.ofNat (c5 + 1))), (.ref bw)]))
        refine Goes.go (fun _ kst => XS.bipush X31.here hx rfl (hb hby d1_76) kst) ?_
        show Goes p e below s _ _ _ (T31.setTop (mkF m 78 #[.val (.ref r0), .val (.ref bw), .val (.int (Int32.ofNat (own_B v_r0 (i + 1) % 2 ^ (3 + 8)))), .val (.int (1 : Int32)), .val (.int (Int32.ofNat (c5 + 2))), .val (.ref r0), .val (.int (Int32.ofNat n_r0)), .val (.int (Int32.ofNat i)), .val (.int (v_r0 i))] [(.int (31 : Int32)), (.int (((Int32.ofNat (own_B v_r0 (i + 1) % 2 ^ (3 + 8))).toUInt32 >>> ((1 : Int32) &&& 31).toUInt32).toInt32)), (.int (Int32.ofNat (c5 + 1))), (.ref bw)]))
        refine Goes.go (fun _ kst => XS.iand X31.here hx rfl (hb hby d1_78) rfl kst) ?_
        rw [show ((((Int32.ofNat (own_B v_r0 (i + 1) % 2 ^ (3 + 8))).toUInt32 >>> ((1 : Int32) &&& 31).toUInt32).toInt32) &&& (31 : Int32)) = (Int32.ofNat (own_B v_r0 (i + 1) % 2 ^ (3 + 8) / 2 ^ 1 % 32)) from own_sh hA (by decide) (by decide)]
        show Goes p e below s _ _ _ (T31.setTop (mkF m 79 #[.val (.ref r0), .val (.ref bw), .val (.int (Int32.ofNat (own_B v_r0 (i + 1) % 2 ^ (3 + 8)))), .val (.int (1 : Int32)), .val (.int (Int32.ofNat (c5 + 2))), .val (.ref r0), .val (.int (Int32.ofNat n_r0)), .val (.int (Int32.ofNat i)), .val (.int (v_r0 i))] [(.int (Int32.ofNat (own_B v_r0 (i + 1) % 2 ^ (3 + 8) / 2 ^ 1 % 32))), (.int (Int32.ofNat (c5 + 1))), (.ref bw)]))
        obtain ⟨T33, h33, X33, e33, W33, A33, st33⟩ := own_stI X31 hx hZ e31 A31 (i := (c5 + 1)) rfl (by omega) (g := (mkF m 79 #[.val (.ref r0), .val (.ref bw), .val (.int (Int32.ofNat (own_B v_r0 (i + 1) % 2 ^ (3 + 8)))), .val (.int (1 : Int32)), .val (.int (Int32.ofNat (c5 + 2))), .val (.ref r0), .val (.int (Int32.ofNat n_r0)), .val (.int (Int32.ofNat i)), .val (.int (v_r0 i))] [(.int (Int32.ofNat (own_B v_r0 (i + 1) % 2 ^ (3 + 8) / 2 ^ 1 % 32))), (.int (Int32.ofNat (c5 + 1))), (.ref bw)])) rfl rfl (hb hby d1_79)
        have N33 := Fr.snoc X33 N31 gw
        have Z33 := Nat.le_trans Z31 (Keep.of_wr W33).1
        have K33 := Keep.wr K31 W33 (Or.inr sw)
        refine Goes.go st33 ?_
        show Goes p e below s _ _ _ (T33.setTop (mkF m 80 #[.val (.ref r0), .val (.ref bw), .val (.int (Int32.ofNat (own_B v_r0 (i + 1) % 2 ^ (3 + 8)))), .val (.int (1 : Int32)), .val (.int (Int32.ofNat (c5 + 2))), .val (.ref r0), .val (.int (Int32.ofNat n_r0)), .val (.int (Int32.ofNat i)), .val (.int (v_r0 i))] []))
        refine Goes.go (fun _ kst => XS.goto X33.here hx rfl (pc0 := 80) (pc' := 59) rfl (hb hby d1_80) (by decide) (by decide) kst) ?_
        show Goes p e below s _ _ _ (T33.setTop (mkF m 59 #[.val (.ref r0), .val (.ref bw), .val (.int (Int32.ofNat (own_B v_r0 (i + 1) % 2 ^ (3 + 8)))), .val (.int (1 : Int32)), .val (.int (Int32.ofNat (c5 + 2))), .val (.ref r0), .val (.int (Int32.ofNat n_r0)), .val (.int (Int32.ofNat i)), .val (.int (v_r0 i))] []))
        refine Goes.go (fun _ kst => XS.iloadN X33.here hx rfl (hb hby d1_59) rfl  kst) ?_
        show Goes p e below s _ _ _ (T33.setTop (mkF m 60 #[.val (.ref r0), .val (.ref bw), .val (.int (Int32.ofNat (own_B v_r0 (i + 1) % 2 ^ (3 + 8)))), .val (.int (1 : Int32)), .val (.int (Int32.ofNat (c5 + 2))), .val (.ref r0), .val (.int (Int32.ofNat n_r0)), .val (.int (Int32.ofNat i)), .val (.int (v_r0 i))] [(.int (1 : Int32))]))
        refine Goes.go (fun _ kst => XS.iconst X33.here hx rfl (hb hby d1_60) kst) ?_
        show Goes p e below s _ _ _ (T33.setTop (mkF m 61 #[.val (.ref r0), .val (.ref bw), .val (.int (Int32.ofNat (own_B v_r0 (i + 1) % 2 ^ (3 + 8)))), .val (.int (1 : Int32)), .val (.int (Int32.ofNat (c5 + 2))), .val (.ref r0), .val (.int (Int32.ofNat n_r0)), .val (.int (Int32.ofNat i)), .val (.int (v_r0 i))] [(.int (5 : Int32)), (.int (1 : Int32))]))
        have hc61_34 : (1 : Int32) < (5 : Int32) := (by decide)
        refine Goes.go (fun _ kst => XS.icmpYes X33.here hx rfl (pc0 := 61) (pc' := 83) rfl (hb hby d1_61) rfl (tlt hc61_34).1 (by decide) (by decide) kst) ?_
        show Goes p e below s _ _ _ (T33.setTop (mkF m 83 #[.val (.ref r0), .val (.ref bw), .val (.int (Int32.ofNat (own_B v_r0 (i + 1) % 2 ^ (3 + 8)))), .val (.int (1 : Int32)), .val (.int (Int32.ofNat (c5 + 2))), .val (.ref r0), .val (.int (Int32.ofNat n_r0)), .val (.int (Int32.ofNat i)), .val (.int (v_r0 i))] []))
        refine Goes.go (fun _ kst => XS.iloadN X33.here hx rfl (hb hby d1_83) rfl  kst) ?_
        show Goes p e below s _ _ _ (T33.setTop (mkF m 84 #[.val (.ref r0), .val (.ref bw), .val (.int (Int32.ofNat (own_B v_r0 (i + 1) % 2 ^ (3 + 8)))), .val (.int (1 : Int32)), .val (.int (Int32.ofNat (c5 + 2))), .val (.ref r0), .val (.int (Int32.ofNat n_r0)), .val (.int (Int32.ofNat i)), .val (.int (v_r0 i))] [(.int (Int32.ofNat (own_B v_r0 (i + 1) % 2 ^ (3 + 8))))]))
        refine Goes.go (fun _ kst => XS.iconst X33.here hx rfl (hb hby d1_84) kst) ?_
        show Goes p e below s _ _ _ (T33.setTop (mkF m 85 #[.val (.ref r0), .val (.ref bw), .val (.int (Int32.ofNat (own_B v_r0 (i + 1) % 2 ^ (3 + 8)))), .val (.int (1 : Int32)), .val (.int (Int32.ofNat (c5 + 2))), .val (.ref r0), .val (.int (Int32.ofNat n_r0)), .val (.int (Int32.ofNat i)), .val (.int (v_r0 i))] [(.int (1 : Int32)), (.int (Int32.ofNat (own_B v_r0 (i + 1) % 2 ^ (3 + 8))))]))
        refine Goes.go (fun _ kst => XS.iloadN X33.here hx rfl (hb hby d1_85) rfl  kst) ?_
        show Goes p e below s _ _ _ (T33.setTop (mkF m 86 #[.val (.ref r0), .val (.ref bw), .val (.int (Int32.ofNat (own_B v_r0 (i + 1) % 2 ^ (3 + 8)))), .val (.int (1 : Int32)), .val (.int (Int32.ofNat (c5 + 2))), .val (.ref r0), .val (.int (Int32.ofNat n_r0)), .val (.int (Int32.ofNat i)), .val (.int (v_r0 i))] [(.int (1 : Int32)), (.int (1 : Int32)), (.int (Int32.ofNat (own_B v_r0 (i + 1) % 2 ^ (3 + 8))))]))
        refine Goes.go (fun _ kst => XS.ishl X33.here hx rfl (hb hby d1_86) rfl kst) ?_
        show Goes p e below s _ _ _ (T33.setTop (mkF m 87 #[.val (.ref r0), .val (.ref bw), .val (.int (Int32.ofNat (own_B v_r0 (i + 1) % 2 ^ (3 + 8)))), .val (.int (1 : Int32)), .val (.int (Int32.ofNat (c5 + 2))), .val (.ref r0), .val (.int (Int32.ofNat n_r0)), .val (.int (Int32.ofNat i)), .val (.int (v_r0 i))] [(.int ((1 : Int32) <<< ((1 : Int32) &&& 31))), (.int (Int32.ofNat (own_B v_r0 (i + 1) % 2 ^ (3 + 8))))]))
        refine Goes.go (fun _ kst => XS.iconst X33.here hx rfl (hb hby d1_87) kst) ?_
        show Goes p e below s _ _ _ (T33.setTop (mkF m 88 #[.val (.ref r0), .val (.ref bw), .val (.int (Int32.ofNat (own_B v_r0 (i + 1) % 2 ^ (3 + 8)))), .val (.int (1 : Int32)), .val (.int (Int32.ofNat (c5 + 2))), .val (.ref r0), .val (.int (Int32.ofNat n_r0)), .val (.int (Int32.ofNat i)), .val (.int (v_r0 i))] [(.int (1 : Int32)), (.int ((1 : Int32) <<< ((1 : Int32) &&& 31))), (.int (Int32.ofNat (own_B v_r0 (i + 1) % 2 ^ (3 + 8))))]))
        refine Goes.go (fun _ kst => XS.isub X33.here hx rfl (hb hby d1_88) rfl kst) ?_
        show Goes p e below s _ _ _ (T33.setTop (mkF m 89 #[.val (.ref r0), .val (.ref bw), .val (.int (Int32.ofNat (own_B v_r0 (i + 1) % 2 ^ (3 + 8)))), .val (.int (1 : Int32)), .val (.int (Int32.ofNat (c5 + 2))), .val (.ref r0), .val (.int (Int32.ofNat n_r0)), .val (.int (Int32.ofNat i)), .val (.int (v_r0 i))] [(.int (((1 : Int32) <<< ((1 : Int32) &&& 31)) - (1 : Int32))), (.int (Int32.ofNat (own_B v_r0 (i + 1) % 2 ^ (3 + 8))))]))
        refine Goes.go (fun _ kst => XS.iand X33.here hx rfl (hb hby d1_89) rfl kst) ?_
        rw [show ((Int32.ofNat (own_B v_r0 (i + 1) % 2 ^ (3 + 8))) &&& (((1 : Int32) <<< ((1 : Int32) &&& 31)) - (1 : Int32))) = (Int32.ofNat (own_B v_r0 (i + 1) % 2 ^ (3 + 8) % 2 ^ 1)) from own_mk hA (by decide) (by decide)]
        rw [own_mm (b := 3) (k := 1) (by decide)]
        show Goes p e below s _ _ _ (T33.setTop (mkF m 90 #[.val (.ref r0), .val (.ref bw), .val (.int (Int32.ofNat (own_B v_r0 (i + 1) % 2 ^ (3 + 8)))), .val (.int (1 : Int32)), .val (.int (Int32.ofNat (c5 + 2))), .val (.ref r0), .val (.int (Int32.ofNat n_r0)), .val (.int (Int32.ofNat i)), .val (.int (v_r0 i))] [(.int (Int32.ofNat (own_B v_r0 (i + 1) % 2 ^ 1)))]))
        refine Goes.go (fun _ kst => XS.istoreN X33.here hx rfl (hb hby d1_90) rfl (l' := #[.val (.ref r0), .val (.ref bw), .val (.int (Int32.ofNat (own_B v_r0 (i + 1) % 2 ^ 1))), .val (.int (1 : Int32)), .val (.int (Int32.ofNat (c5 + 2))), .val (.ref r0), .val (.int (Int32.ofNat n_r0)), .val (.int (Int32.ofNat i)), .val (.int (v_r0 i))]) rfl kst) ?_
        show Goes p e below s _ _ _ (T33.setTop (mkF m 91 #[.val (.ref r0), .val (.ref bw), .val (.int (Int32.ofNat (own_B v_r0 (i + 1) % 2 ^ 1))), .val (.int (1 : Int32)), .val (.int (Int32.ofNat (c5 + 2))), .val (.ref r0), .val (.int (Int32.ofNat n_r0)), .val (.int (Int32.ofNat i)), .val (.int (v_r0 i))] []))
        refine Goes.go (fun _ kst => XS.iinc X33.here hx rfl (hb hby d1_91) rfl (l' := #[.val (.ref r0), .val (.ref bw), .val (.int (Int32.ofNat (own_B v_r0 (i + 1) % 2 ^ 1))), .val (.int (1 : Int32)), .val (.int (Int32.ofNat (c5 + 2))), .val (.ref r0), .val (.int (Int32.ofNat n_r0)), .val (.int ((Int32.ofNat i) + (1 : Int32))), .val (.int (v_r0 i))]) rfl kst) ?_
        rw [show (Int32.ofNat i + (1 : Int32)) = Int32.ofNat (i + 1) from own_add (n := 1) (by omega)]
        show Goes p e below s _ _ _ (T33.setTop (mkF m 94 #[.val (.ref r0), .val (.ref bw), .val (.int (Int32.ofNat (own_B v_r0 (i + 1) % 2 ^ 1))), .val (.int (1 : Int32)), .val (.int (Int32.ofNat (c5 + 2))), .val (.ref r0), .val (.int (Int32.ofNat n_r0)), .val (.int (Int32.ofNat (i + 1))), .val (.int (v_r0 i))] []))
        refine Goes.go (fun _ kst => XS.goto X33.here hx rfl (pc0 := 94) (pc' := 30) rfl (hb hby d1_94) (by decide) (by decide) kst) ?_
        exact ih (i + 1) 1 (c5 + 2) _ bw X33 e33 N33 Z33 K33 ((A33).as (fun k _ => own_F2 (b := 3) hc hbv (by decide) (by omega) k)) gw sw n0w (One.val rfl) (by omega) (by omega) (by omega)
      · skip
        show Goes p e below s _ _ _ (TJ.setTop (mkF m 30 #[.val (.ref r0), .val (.ref bw), .val (.int (Int32.ofNat (own_B v_r0 i % 2 ^ 4))), .val (.int (4 : Int32)), .val (.int (Int32.ofNat c5)), .val (.ref r0), .val (.int (Int32.ofNat n_r0)), .val (.int (Int32.ofNat i)), s8] []))
        refine Goes.go (fun _ kst => XS.iload XJ.here hx rfl (hb hby d1_30) rfl  kst) ?_
        show Goes p e below s _ _ _ (TJ.setTop (mkF m 32 #[.val (.ref r0), .val (.ref bw), .val (.int (Int32.ofNat (own_B v_r0 i % 2 ^ 4))), .val (.int (4 : Int32)), .val (.int (Int32.ofNat c5)), .val (.ref r0), .val (.int (Int32.ofNat n_r0)), .val (.int (Int32.ofNat i)), s8] [(.int (Int32.ofNat i))]))
        refine Goes.go (fun _ kst => XS.iload XJ.here hx rfl (hb hby d1_32) rfl  kst) ?_
        show Goes p e below s _ _ _ (TJ.setTop (mkF m 34 #[.val (.ref r0), .val (.ref bw), .val (.int (Int32.ofNat (own_B v_r0 i % 2 ^ 4))), .val (.int (4 : Int32)), .val (.int (Int32.ofNat c5)), .val (.ref r0), .val (.int (Int32.ofNat n_r0)), .val (.int (Int32.ofNat i)), s8] [(.int (Int32.ofNat n_r0)), (.int (Int32.ofNat i))]))
        have hc34_35 : (Int32.ofNat i) < (Int32.ofNat n_r0) := (own_lt (by omega) (by omega)).mpr (by omega)
        refine Goes.go (fun _ kst => XS.icmpNo XJ.here hx rfl (hb hby d1_34) rfl (tlt hc34_35).2.1 kst) ?_
        show Goes p e below s _ _ _ (TJ.setTop (mkF m 37 #[.val (.ref r0), .val (.ref bw), .val (.int (Int32.ofNat (own_B v_r0 i % 2 ^ 4))), .val (.int (4 : Int32)), .val (.int (Int32.ofNat c5)), .val (.ref r0), .val (.int (Int32.ofNat n_r0)), .val (.int (Int32.ofNat i)), s8] []))
        refine Goes.go (fun _ kst => XS.aload XJ.here hx rfl (hb hby d1_37) rfl rfl  kst) ?_
        show Goes p e below s _ _ _ (TJ.setTop (mkF m 39 #[.val (.ref r0), .val (.ref bw), .val (.int (Int32.ofNat (own_B v_r0 i % 2 ^ 4))), .val (.int (4 : Int32)), .val (.int (Int32.ofNat c5)), .val (.ref r0), .val (.int (Int32.ofNat n_r0)), .val (.int (Int32.ofNat i)), s8] [(.ref r0)]))
        refine Goes.go (fun _ kst => XS.iload XJ.here hx rfl (hb hby d1_39) rfl  kst) ?_
        show Goes p e below s _ _ _ (TJ.setTop (mkF m 41 #[.val (.ref r0), .val (.ref bw), .val (.int (Int32.ofNat (own_B v_r0 i % 2 ^ 4))), .val (.int (4 : Int32)), .val (.int (Int32.ofNat c5)), .val (.ref r0), .val (.int (Int32.ofNat n_r0)), .val (.int (Int32.ofNat i)), s8] [(.int (Int32.ofNat i)), (.ref r0)]))
        refine Goes.go (own_ldB XJ hx hZ eJ A0 (i := i) rfl (by omega) (g := (mkF m 41 #[.val (.ref r0), .val (.ref bw), .val (.int (Int32.ofNat (own_B v_r0 i % 2 ^ 4))), .val (.int (4 : Int32)), .val (.int (Int32.ofNat c5)), .val (.ref r0), .val (.int (Int32.ofNat n_r0)), .val (.int (Int32.ofNat i)), s8] [(.int (Int32.ofNat i)), (.ref r0)])) rfl rfl (hb hby d1_41)) ?_
        show Goes p e below s _ _ _ (TJ.setTop (mkF m 42 #[.val (.ref r0), .val (.ref bw), .val (.int (Int32.ofNat (own_B v_r0 i % 2 ^ 4))), .val (.int (4 : Int32)), .val (.int (Int32.ofNat c5)), .val (.ref r0), .val (.int (Int32.ofNat n_r0)), .val (.int (Int32.ofNat i)), s8] [(.int (v_r0 i))]))
        refine Goes.go (fun _ kst => XS.istore XJ.here hx rfl (hb hby d1_42) rfl (l' := #[.val (.ref r0), .val (.ref bw), .val (.int (Int32.ofNat (own_B v_r0 i % 2 ^ 4))), .val (.int (4 : Int32)), .val (.int (Int32.ofNat c5)), .val (.ref r0), .val (.int (Int32.ofNat n_r0)), .val (.int (Int32.ofNat i)), .val (.int (v_r0 i))]) (XS.store1 rfl hs8 rfl) kst) ?_
        show Goes p e below s _ _ _ (TJ.setTop (mkF m 44 #[.val (.ref r0), .val (.ref bw), .val (.int (Int32.ofNat (own_B v_r0 i % 2 ^ 4))), .val (.int (4 : Int32)), .val (.int (Int32.ofNat c5)), .val (.ref r0), .val (.int (Int32.ofNat n_r0)), .val (.int (Int32.ofNat i)), .val (.int (v_r0 i))] []))
        refine Goes.go (fun _ kst => XS.iloadN XJ.here hx rfl (hb hby d1_44) rfl  kst) ?_
        show Goes p e below s _ _ _ (TJ.setTop (mkF m 45 #[.val (.ref r0), .val (.ref bw), .val (.int (Int32.ofNat (own_B v_r0 i % 2 ^ 4))), .val (.int (4 : Int32)), .val (.int (Int32.ofNat c5)), .val (.ref r0), .val (.int (Int32.ofNat n_r0)), .val (.int (Int32.ofNat i)), .val (.int (v_r0 i))] [(.int (Int32.ofNat (own_B v_r0 i % 2 ^ 4)))]))
        refine Goes.go (fun _ kst => XS.bipush XJ.here hx rfl (hb hby d1_45) kst) ?_
        show Goes p e below s _ _ _ (TJ.setTop (mkF m 47 #[.val (.ref r0), .val (.ref bw), .val (.int (Int32.ofNat (own_B v_r0 i % 2 ^ 4))), .val (.int (4 : Int32)), .val (.int (Int32.ofNat c5)), .val (.ref r0), .val (.int (Int32.ofNat n_r0)), .val (.int (Int32.ofNat i)), .val (.int (v_r0 i))] [(.int (8 : Int32)), (.int (Int32.ofNat (own_B v_r0 i % 2 ^ 4)))]))
        refine Goes.go (fun _ kst => XS.ishl XJ.here hx rfl (hb hby d1_47) rfl kst) ?_
        show Goes p e below s _ _ _ (TJ.setTop (mkF m 48 #[.val (.ref r0), .val (.ref bw), .val (.int (Int32.ofNat (own_B v_r0 i % 2 ^ 4))), .val (.int (4 : Int32)), .val (.int (Int32.ofNat c5)), .val (.ref r0), .val (.int (Int32.ofNat n_r0)), .val (.int (Int32.ofNat i)), .val (.int (v_r0 i))] [(.int ((Int32.ofNat (own_B v_r0 i % 2 ^ 4)) <<< ((8 : Int32) &&& 31)))]))
        refine Goes.go (fun _ kst => XS.iload XJ.here hx rfl (hb hby d1_48) rfl  kst) ?_
        show Goes p e below s _ _ _ (TJ.setTop (mkF m 50 #[.val (.ref r0), .val (.ref bw), .val (.int (Int32.ofNat (own_B v_r0 i % 2 ^ 4))), .val (.int (4 : Int32)), .val (.int (Int32.ofNat c5)), .val (.ref r0), .val (.int (Int32.ofNat n_r0)), .val (.int (Int32.ofNat i)), .val (.int (v_r0 i))] [(.int (v_r0 i)), (.int ((Int32.ofNat (own_B v_r0 i % 2 ^ 4)) <<< ((8 : Int32) &&& 31)))]))
        refine Goes.go (fun _ kst => XS.sipush XJ.here hx rfl (hb hby d1_50) kst) ?_
        show Goes p e below s _ _ _ (TJ.setTop (mkF m 53 #[.val (.ref r0), .val (.ref bw), .val (.int (Int32.ofNat (own_B v_r0 i % 2 ^ 4))), .val (.int (4 : Int32)), .val (.int (Int32.ofNat c5)), .val (.ref r0), .val (.int (Int32.ofNat n_r0)), .val (.int (Int32.ofNat i)), .val (.int (v_r0 i))] [(.int (255 : Int32)), (.int (v_r0 i)), (.int ((Int32.ofNat (own_B v_r0 i % 2 ^ 4)) <<< ((8 : Int32) &&& 31)))]))
        refine Goes.go (fun _ kst => XS.iand XJ.here hx rfl (hb hby d1_53) rfl kst) ?_
        show Goes p e below s _ _ _ (TJ.setTop (mkF m 54 #[.val (.ref r0), .val (.ref bw), .val (.int (Int32.ofNat (own_B v_r0 i % 2 ^ 4))), .val (.int (4 : Int32)), .val (.int (Int32.ofNat c5)), .val (.ref r0), .val (.int (Int32.ofNat n_r0)), .val (.int (Int32.ofNat i)), .val (.int (v_r0 i))] [(.int ((v_r0 i) &&& (255 : Int32))), (.int ((Int32.ofNat (own_B v_r0 i % 2 ^ 4)) <<< ((8 : Int32) &&& 31)))]))
        refine Goes.go (fun _ kst => XS.ior XJ.here hx rfl (hb hby d1_54) rfl kst) ?_
        rw [show (((Int32.ofNat (own_B v_r0 i % 2 ^ 4)) <<< ((8 : Int32) &&& 31)) ||| ((v_r0 i) &&& (255 : Int32))) = Int32.ofNat (own_B v_r0 i % 2 ^ 4 * 256 + own_ub (v_r0 i)) from own_acc _ (hB 4 (by decide))]
        rw [own_A 4]
        have hA : own_B v_r0 (i + 1) % 2 ^ (4 + 8) < 4096 := Nat.lt_of_lt_of_le (Nat.mod_lt _ (Nat.pow_pos (by decide))) (by decide)
        show Goes p e below s _ _ _ (TJ.setTop (mkF m 55 #[.val (.ref r0), .val (.ref bw), .val (.int (Int32.ofNat (own_B v_r0 i % 2 ^ 4))), .val (.int (4 : Int32)), .val (.int (Int32.ofNat c5)), .val (.ref r0), .val (.int (Int32.ofNat n_r0)), .val (.int (Int32.ofNat i)), .val (.int (v_r0 i))] [(.int (Int32.ofNat (own_B v_r0 (i + 1) % 2 ^ (4 + 8))))]))
        refine Goes.go (fun _ kst => XS.istoreN XJ.here hx rfl (hb hby d1_55) rfl (l' := #[.val (.ref r0), .val (.ref bw), .val (.int (Int32.ofNat (own_B v_r0 (i + 1) % 2 ^ (4 + 8)))), .val (.int (4 : Int32)), .val (.int (Int32.ofNat c5)), .val (.ref r0), .val (.int (Int32.ofNat n_r0)), .val (.int (Int32.ofNat i)), .val (.int (v_r0 i))]) rfl kst) ?_
        show Goes p e below s _ _ _ (TJ.setTop (mkF m 56 #[.val (.ref r0), .val (.ref bw), .val (.int (Int32.ofNat (own_B v_r0 (i + 1) % 2 ^ (4 + 8)))), .val (.int (4 : Int32)), .val (.int (Int32.ofNat c5)), .val (.ref r0), .val (.int (Int32.ofNat n_r0)), .val (.int (Int32.ofNat i)), .val (.int (v_r0 i))] []))
        refine Goes.go (fun _ kst => XS.iinc XJ.here hx rfl (hb hby d1_56) rfl (l' := #[.val (.ref r0), .val (.ref bw), .val (.int (Int32.ofNat (own_B v_r0 (i + 1) % 2 ^ (4 + 8)))), .val (.int ((4 : Int32) + (8 : Int32))), .val (.int (Int32.ofNat c5)), .val (.ref r0), .val (.int (Int32.ofNat n_r0)), .val (.int (Int32.ofNat i)), .val (.int (v_r0 i))]) rfl kst) ?_
        rw [show ((4 : Int32) + (8 : Int32)) = (12 : Int32) from by decide]
        show Goes p e below s _ _ _ (TJ.setTop (mkF m 59 #[.val (.ref r0), .val (.ref bw), .val (.int (Int32.ofNat (own_B v_r0 (i + 1) % 2 ^ (4 + 8)))), .val (.int (12 : Int32)), .val (.int (Int32.ofNat c5)), .val (.ref r0), .val (.int (Int32.ofNat n_r0)), .val (.int (Int32.ofNat i)), .val (.int (v_r0 i))] []))
        refine Goes.go (fun _ kst => XS.iloadN XJ.here hx rfl (hb hby d1_59) rfl  kst) ?_
        show Goes p e below s _ _ _ (TJ.setTop (mkF m 60 #[.val (.ref r0), .val (.ref bw), .val (.int (Int32.ofNat (own_B v_r0 (i + 1) % 2 ^ (4 + 8)))), .val (.int (12 : Int32)), .val (.int (Int32.ofNat c5)), .val (.ref r0), .val (.int (Int32.ofNat n_r0)), .val (.int (Int32.ofNat i)), .val (.int (v_r0 i))] [(.int (12 : Int32))]))
        refine Goes.go (fun _ kst => XS.iconst XJ.here hx rfl (hb hby d1_60) kst) ?_
        show Goes p e below s _ _ _ (TJ.setTop (mkF m 61 #[.val (.ref r0), .val (.ref bw), .val (.int (Int32.ofNat (own_B v_r0 (i + 1) % 2 ^ (4 + 8)))), .val (.int (12 : Int32)), .val (.int (Int32.ofNat c5)), .val (.ref r0), .val (.int (Int32.ofNat n_r0)), .val (.int (Int32.ofNat i)), .val (.int (v_r0 i))] [(.int (5 : Int32)), (.int (12 : Int32))]))
        have hc61_36 : ¬ ((12 : Int32) < (5 : Int32)) := (by decide)
        refine Goes.go (fun _ kst => XS.icmpNo XJ.here hx rfl (hb hby d1_61) rfl (flt hc61_36).1 kst) ?_
        show Goes p e below s _ _ _ (TJ.setTop (mkF m 64 #[.val (.ref r0), .val (.ref bw), .val (.int (Int32.ofNat (own_B v_r0 (i + 1) % 2 ^ (4 + 8)))), .val (.int (12 : Int32)), .val (.int (Int32.ofNat c5)), .val (.ref r0), .val (.int (Int32.ofNat n_r0)), .val (.int (Int32.ofNat i)), .val (.int (v_r0 i))] []))
        refine Goes.go (fun _ kst => XS.iinc XJ.here hx rfl (hb hby d1_64) rfl (l' := #[.val (.ref r0), .val (.ref bw), .val (.int (Int32.ofNat (own_B v_r0 (i + 1) % 2 ^ (4 + 8)))), .val (.int ((12 : Int32) + (-5 : Int32))), .val (.int (Int32.ofNat c5)), .val (.ref r0), .val (.int (Int32.ofNat n_r0)), .val (.int (Int32.ofNat i)), .val (.int (v_r0 i))]) rfl kst) ?_
        rw [show ((12 : Int32) + (-5 : Int32)) = (7 : Int32) from by decide]
        show Goes p e below s _ _ _ (TJ.setTop (mkF m 67 #[.val (.ref r0), .val (.ref bw), .val (.int (Int32.ofNat (own_B v_r0 (i + 1) % 2 ^ (4 + 8)))), .val (.int (7 : Int32)), .val (.int (Int32.ofNat c5)), .val (.ref r0), .val (.int (Int32.ofNat n_r0)), .val (.int (Int32.ofNat i)), .val (.int (v_r0 i))] []))
        refine Goes.go (fun _ kst => XS.aloadN XJ.here hx rfl (hb hby d1_67) rfl rfl  kst) ?_
        show Goes p e below s _ _ _ (TJ.setTop (mkF m 68 #[.val (.ref r0), .val (.ref bw), .val (.int (Int32.ofNat (own_B v_r0 (i + 1) % 2 ^ (4 + 8)))), .val (.int (7 : Int32)), .val (.int (Int32.ofNat c5)), .val (.ref r0), .val (.int (Int32.ofNat n_r0)), .val (.int (Int32.ofNat i)), .val (.int (v_r0 i))] [(.ref bw)]))
        refine Goes.go (fun _ kst => XS.iload XJ.here hx rfl (hb hby d1_68) rfl  kst) ?_
        show Goes p e below s _ _ _ (TJ.setTop (mkF m 70 #[.val (.ref r0), .val (.ref bw), .val (.int (Int32.ofNat (own_B v_r0 (i + 1) % 2 ^ (4 + 8)))), .val (.int (7 : Int32)), .val (.int (Int32.ofNat c5)), .val (.ref r0), .val (.int (Int32.ofNat n_r0)), .val (.int (Int32.ofNat i)), .val (.int (v_r0 i))] [(.int (Int32.ofNat c5)), (.ref bw)]))
        refine Goes.go (fun _ kst => XS.iinc XJ.here hx rfl (hb hby d1_70) rfl (l' := #[.val (.ref r0), .val (.ref bw), .val (.int (Int32.ofNat (own_B v_r0 (i + 1) % 2 ^ (4 + 8)))), .val (.int (7 : Int32)), .val (.int ((Int32.ofNat c5) + (1 : Int32))), .val (.ref r0), .val (.int (Int32.ofNat n_r0)), .val (.int (Int32.ofNat i)), .val (.int (v_r0 i))]) rfl kst) ?_
        rw [show (Int32.ofNat c5 + (1 : Int32)) = Int32.ofNat (c5 + 1) from own_add (n := 1) (by omega)]
        show Goes p e below s _ _ _ (TJ.setTop (mkF m 73 #[.val (.ref r0), .val (.ref bw), .val (.int (Int32.ofNat (own_B v_r0 (i + 1) % 2 ^ (4 + 8)))), .val (.int (7 : Int32)), .val (.int (Int32.ofNat (c5 + 1))), .val (.ref r0), .val (.int (Int32.ofNat n_r0)), .val (.int (Int32.ofNat i)), .val (.int (v_r0 i))] [(.int (Int32.ofNat c5)), (.ref bw)]))
        refine Goes.go (fun _ kst => XS.iloadN XJ.here hx rfl (hb hby d1_73) rfl  kst) ?_
        show Goes p e below s _ _ _ (TJ.setTop (mkF m 74 #[.val (.ref r0), .val (.ref bw), .val (.int (Int32.ofNat (own_B v_r0 (i + 1) % 2 ^ (4 + 8)))), .val (.int (7 : Int32)), .val (.int (Int32.ofNat (c5 + 1))), .val (.ref r0), .val (.int (Int32.ofNat n_r0)), .val (.int (Int32.ofNat i)), .val (.int (v_r0 i))] [(.int (Int32.ofNat (own_B v_r0 (i + 1) % 2 ^ (4 + 8)))), (.int (Int32.ofNat c5)), (.ref bw)]))
        refine Goes.go (fun _ kst => XS.iloadN XJ.here hx rfl (hb hby d1_74) rfl  kst) ?_
        show Goes p e below s _ _ _ (TJ.setTop (mkF m 75 #[.val (.ref r0), .val (.ref bw), .val (.int (Int32.ofNat (own_B v_r0 (i + 1) % 2 ^ (4 + 8)))), .val (.int (7 : Int32)), .val (.int (Int32.ofNat (c5 + 1))), .val (.ref r0), .val (.int (Int32.ofNat n_r0)), .val (.int (Int32.ofNat i)), .val (.int (v_r0 i))] [(.int (7 : Int32)), (.int (Int32.ofNat (own_B v_r0 (i + 1) % 2 ^ (4 + 8)))), (.int (Int32.ofNat c5)), (.ref bw)]))
        refine Goes.go (fun _ kst => XS.iushr XJ.here hx rfl (hb hby d1_75) rfl kst) ?_
        show Goes p e below s _ _ _ (TJ.setTop (mkF m 76 #[.val (.ref r0), .val (.ref bw), .val (.int (Int32.ofNat (own_B v_r0 (i + 1) % 2 ^ (4 + 8)))), .val (.int (7 : Int32)), .val (.int (Int32.ofNat (c5 + 1))), .val (.ref r0), .val (.int (Int32.ofNat n_r0)), .val (.int (Int32.ofNat i)), .val (.int (v_r0 i))] [(.int (((Int32.ofNat (own_B v_r0 (i + 1) % 2 ^ (4 + 8))).toUInt32 >>> ((7 : Int32) &&& 31).toUInt32).toInt32)), (.int (Int32.ofNat c5)), (.ref bw)]))
        refine Goes.go (fun _ kst => XS.bipush XJ.here hx rfl (hb hby d1_76) kst) ?_
        show Goes p e below s _ _ _ (TJ.setTop (mkF m 78 #[.val (.ref r0), .val (.ref bw), .val (.int (Int32.ofNat (own_B v_r0 (i + 1) % 2 ^ (4 + 8)))), .val (.int (7 : Int32)), .val (.int (Int32.ofNat (c5 + 1))), .val (.ref r0), .val (.int (Int32.ofNat n_r0)), .val (.int (Int32.ofNat i)), .val (.int (v_r0 i))] [(.int (31 : Int32)), (.int (((Int32.ofNat (own_B v_r0 (i + 1) % 2 ^ (4 + 8))).toUInt32 >>> ((7 : Int32) &&& 31).toUInt32).toInt32)), (.int (Int32.ofNat c5)), (.ref bw)]))
        refine Goes.go (fun _ kst => XS.iand XJ.here hx rfl (hb hby d1_78) rfl kst) ?_
        rw [show ((((Int32.ofNat (own_B v_r0 (i + 1) % 2 ^ (4 + 8))).toUInt32 >>> ((7 : Int32) &&& 31).toUInt32).toInt32) &&& (31 : Int32)) = (Int32.ofNat (own_B v_r0 (i + 1) % 2 ^ (4 + 8) / 2 ^ 7 % 32)) from own_sh hA (by decide) (by decide)]
        show Goes p e below s _ _ _ (TJ.setTop (mkF m 79 #[.val (.ref r0), .val (.ref bw), .val (.int (Int32.ofNat (own_B v_r0 (i + 1) % 2 ^ (4 + 8)))), .val (.int (7 : Int32)), .val (.int (Int32.ofNat (c5 + 1))), .val (.ref r0), .val (.int (Int32.ofNat n_r0)), .val (.int (Int32.ofNat i)), .val (.int (v_r0 i))] [(.int (Int32.ofNat (own_B v_r0 (i + 1) % 2 ^ (4 + 8) / 2 ^ 7 % 32))), (.int (Int32.ofNat c5)), (.ref bw)]))
        obtain ⟨T37, h37, X37, e37, W37, A37, st37⟩ := own_stI XJ hx hZ eJ AW (i := c5) rfl (by omega) (g := (mkF m 79 #[.val (.ref r0), .val (.ref bw), .val (.int (Int32.ofNat (own_B v_r0 (i + 1) % 2 ^ (4 + 8)))), .val (.int (7 : Int32)), .val (.int (Int32.ofNat (c5 + 1))), .val (.ref r0), .val (.int (Int32.ofNat n_r0)), .val (.int (Int32.ofNat i)), .val (.int (v_r0 i))] [(.int (Int32.ofNat (own_B v_r0 (i + 1) % 2 ^ (4 + 8) / 2 ^ 7 % 32))), (.int (Int32.ofNat c5)), (.ref bw)])) rfl rfl (hb hby d1_79)
        have N37 := Fr.snoc X37 NJ gw
        have Z37 := Nat.le_trans ZJ (Keep.of_wr W37).1
        have K37 := Keep.wr KJ W37 (Or.inr sw)
        refine Goes.go st37 ?_
        show Goes p e below s _ _ _ (T37.setTop (mkF m 80 #[.val (.ref r0), .val (.ref bw), .val (.int (Int32.ofNat (own_B v_r0 (i + 1) % 2 ^ (4 + 8)))), .val (.int (7 : Int32)), .val (.int (Int32.ofNat (c5 + 1))), .val (.ref r0), .val (.int (Int32.ofNat n_r0)), .val (.int (Int32.ofNat i)), .val (.int (v_r0 i))] []))
        refine Goes.go (fun _ kst => XS.goto X37.here hx rfl (pc0 := 80) (pc' := 59) rfl (hb hby d1_80) (by decide) (by decide) kst) ?_
        show Goes p e below s _ _ _ (T37.setTop (mkF m 59 #[.val (.ref r0), .val (.ref bw), .val (.int (Int32.ofNat (own_B v_r0 (i + 1) % 2 ^ (4 + 8)))), .val (.int (7 : Int32)), .val (.int (Int32.ofNat (c5 + 1))), .val (.ref r0), .val (.int (Int32.ofNat n_r0)), .val (.int (Int32.ofNat i)), .val (.int (v_r0 i))] []))
        refine Goes.go (fun _ kst => XS.iloadN X37.here hx rfl (hb hby d1_59) rfl  kst) ?_
        show Goes p e below s _ _ _ (T37.setTop (mkF m 60 #[.val (.ref r0), .val (.ref bw), .val (.int (Int32.ofNat (own_B v_r0 (i + 1) % 2 ^ (4 + 8)))), .val (.int (7 : Int32)), .val (.int (Int32.ofNat (c5 + 1))), .val (.ref r0), .val (.int (Int32.ofNat n_r0)), .val (.int (Int32.ofNat i)), .val (.int (v_r0 i))] [(.int (7 : Int32))]))
        refine Goes.go (fun _ kst => XS.iconst X37.here hx rfl (hb hby d1_60) kst) ?_
        show Goes p e below s _ _ _ (T37.setTop (mkF m 61 #[.val (.ref r0), .val (.ref bw), .val (.int (Int32.ofNat (own_B v_r0 (i + 1) % 2 ^ (4 + 8)))), .val (.int (7 : Int32)), .val (.int (Int32.ofNat (c5 + 1))), .val (.ref r0), .val (.int (Int32.ofNat n_r0)), .val (.int (Int32.ofNat i)), .val (.int (v_r0 i))] [(.int (5 : Int32)), (.int (7 : Int32))]))
        have hc61_38 : ¬ ((7 : Int32) < (5 : Int32)) := (by decide)
        refine Goes.go (fun _ kst => XS.icmpNo X37.here hx rfl (hb hby d1_61) rfl (flt hc61_38).1 kst) ?_
        show Goes p e below s _ _ _ (T37.setTop (mkF m 64 #[.val (.ref r0), .val (.ref bw), .val (.int (Int32.ofNat (own_B v_r0 (i + 1) % 2 ^ (4 + 8)))), .val (.int (7 : Int32)), .val (.int (Int32.ofNat (c5 + 1))), .val (.ref r0), .val (.int (Int32.ofNat n_r0)), .val (.int (Int32.ofNat i)), .val (.int (v_r0 i))] []))
        refine Goes.go (fun _ kst => XS.iinc X37.here hx rfl (hb hby d1_64) rfl (l' := #[.val (.ref r0), .val (.ref bw), .val (.int (Int32.ofNat (own_B v_r0 (i + 1) % 2 ^ (4 + 8)))), .val (.int ((7 : Int32) + (-5 : Int32))), .val (.int (Int32.ofNat (c5 + 1))), .val (.ref r0), .val (.int (Int32.ofNat n_r0)), .val (.int (Int32.ofNat i)), .val (.int (v_r0 i))]) rfl kst) ?_
        rw [show ((7 : Int32) + (-5 : Int32)) = (2 : Int32) from by decide]
        show Goes p e below s _ _ _ (T37.setTop (mkF m 67 #[.val (.ref r0), .val (.ref bw), .val (.int (Int32.ofNat (own_B v_r0 (i + 1) % 2 ^ (4 + 8)))), .val (.int (2 : Int32)), .val (.int (Int32.ofNat (c5 + 1))), .val (.ref r0), .val (.int (Int32.ofNat n_r0)), .val (.int (Int32.ofNat i)), .val (.int (v_r0 i))] []))
        refine Goes.go (fun _ kst => XS.aloadN X37.here hx rfl (hb hby d1_67) rfl rfl  kst) ?_
        show Goes p e below s _ _ _ (T37.setTop (mkF m 68 #[.val (.ref r0), .val (.ref bw), .val (.int (Int32.ofNat (own_B v_r0 (i + 1) % 2 ^ (4 + 8)))), .val (.int (2 : Int32)), .val (.int (Int32.ofNat (c5 + 1))), .val (.ref r0), .val (.int (Int32.ofNat n_r0)), .val (.int (Int32.ofNat i)), .val (.int (v_r0 i))] [(.ref bw)]))
        refine Goes.go (fun _ kst => XS.iload X37.here hx rfl (hb hby d1_68) rfl  kst) ?_
        show Goes p e below s _ _ _ (T37.setTop (mkF m 70 #[.val (.ref r0), .val (.ref bw), .val (.int (Int32.ofNat (own_B v_r0 (i + 1) % 2 ^ (4 + 8)))), .val (.int (2 : Int32)), .val (.int (Int32.ofNat (c5 + 1))), .val (.ref r0), .val (.int (Int32.ofNat n_r0)), .val (.int (Int32.ofNat i)), .val (.int (v_r0 i))] [(.int (Int32.ofNat (c5 + 1))), (.ref bw)]))
        refine Goes.go (fun _ kst => XS.iinc X37.here hx rfl (hb hby d1_70) rfl (l' := #[.val (.ref r0), .val (.ref bw), .val (.int (Int32.ofNat (own_B v_r0 (i + 1) % 2 ^ (4 + 8)))), .val (.int (2 : Int32)), .val (.int ((Int32.ofNat (c5 + 1)) + (1 : Int32))), .val (.ref r0), .val (.int (Int32.ofNat n_r0)), .val (.int (Int32.ofNat i)), .val (.int (v_r0 i))]) rfl kst) ?_
        rw [show (Int32.ofNat (c5 + 1) + (1 : Int32)) = Int32.ofNat (c5 + 2) from own_add (n := 1) (by omega)]
        show Goes p e below s _ _ _ (T37.setTop (mkF m 73 #[.val (.ref r0), .val (.ref bw), .val (.int (Int32.ofNat (own_B v_r0 (i + 1) % 2 ^ (4 + 8)))), .val (.int (2 : Int32)), .val (.int (Int32.ofNat (c5 + 2))), .val (.ref r0), .val (.int (Int32.ofNat n_r0)), .val (.int (Int32.ofNat i)), .val (.int (v_r0 i))] [(.int (Int32.ofNat (c5 + 1))), (.ref bw)]))
        refine Goes.go (fun _ kst => XS.iloadN X37.here hx rfl (hb hby d1_73) rfl  kst) ?_
        show Goes p e below s _ _ _ (T37.setTop (mkF m 74 #[.val (.ref r0), .val (.ref bw), .val (.int (Int32.ofNat (own_B v_r0 (i + 1) % 2 ^ (4 + 8)))), .val (.int (2 : Int32)), .val (.int (Int32.ofNat (c5 + 2))), .val (.ref r0), .val (.int (Int32.ofNat n_r0)), .val (.int (Int32.ofNat i)), .val (.int (v_r0 i))] [(.int (Int32.ofNat (own_B v_r0 (i + 1) % 2 ^ (4 + 8)))), (.int (Int32.ofNat (c5 + 1))), (.ref bw)]))
        refine Goes.go (fun _ kst => XS.iloadN X37.here hx rfl (hb hby d1_74) rfl  kst) ?_
        show Goes p e below s _ _ _ (T37.setTop (mkF m 75 #[.val (.ref r0), .val (.ref bw), .val (.int (Int32.ofNat (own_B v_r0 (i + 1) % 2 ^ (4 + 8)))), .val (.int (2 : Int32)), .val (.int (Int32.ofNat (c5 + 2))), .val (.ref r0), .val (.int (Int32.ofNat n_r0)), .val (.int (Int32.ofNat i)), .val (.int (v_r0 i))] [(.int (2 : Int32)), (.int (Int32.ofNat (own_B v_r0 (i + 1) % 2 ^ (4 + 8)))), (.int (Int32.ofNat (c5 + 1))), (.ref bw)]))
        refine Goes.go (fun _ kst => XS.iushr X37.here hx rfl (hb hby d1_75) rfl kst) ?_
        show Goes p e below s _ _ _ (T37.setTop (mkF m 76 #[.val (.ref r0), .val (.ref bw), .val (.int (Int32.ofNat (own_B v_r0 (i + 1) % 2 ^ (4 + 8)))), .val (.int (2 : Int32)), .val (.int (Int32.ofNat (c5 + 2))), .val (.ref r0), .val (.int (Int32.ofNat n_r0)), .val (.int (Int32.ofNat i)), .val (.int (v_r0 i))] [(.int (((Int32.ofNat (own_B v_r0 (i + 1) % 2 ^ (4 + 8))).toUInt32 >>> ((2 : Int32) &&& 31).toUInt32).toInt32)), (.int (Int32.ofNat (c5 + 1))), (.ref bw)]))
        refine Goes.go (fun _ kst => XS.bipush X37.here hx rfl (hb hby d1_76) kst) ?_
        show Goes p e below s _ _ _ (T37.setTop (mkF m 78 #[.val (.ref r0), .val (.ref bw), .val (.int (Int32.ofNat (own_B v_r0 (i + 1) % 2 ^ (4 + 8)))), .val (.int (2 : Int32)), .val (.int (Int32.ofNat (c5 + 2))), .val (.ref r0), .val (.int (Int32.ofNat n_r0)), .val (.int (Int32.ofNat i)), .val (.int (v_r0 i))] [(.int (31 : Int32)), (.int (((Int32.ofNat (own_B v_r0 (i + 1) % 2 ^ (4 + 8))).toUInt32 >>> ((2 : Int32) &&& 31).toUInt32).toInt32)), (.int (Int32.ofNat (c5 + 1))), (.ref bw)]))
        refine Goes.go (fun _ kst => XS.iand X37.here hx rfl (hb hby d1_78) rfl kst) ?_
        rw [show ((((Int32.ofNat (own_B v_r0 (i + 1) % 2 ^ (4 + 8))).toUInt32 >>> ((2 : Int32) &&& 31).toUInt32).toInt32) &&& (31 : Int32)) = (Int32.ofNat (own_B v_r0 (i + 1) % 2 ^ (4 + 8) / 2 ^ 2 % 32)) from own_sh hA (by decide) (by decide)]
        show Goes p e below s _ _ _ (T37.setTop (mkF m 79 #[.val (.ref r0), .val (.ref bw), .val (.int (Int32.ofNat (own_B v_r0 (i + 1) % 2 ^ (4 + 8)))), .val (.int (2 : Int32)), .val (.int (Int32.ofNat (c5 + 2))), .val (.ref r0), .val (.int (Int32.ofNat n_r0)), .val (.int (Int32.ofNat i)), .val (.int (v_r0 i))] [(.int (Int32.ofNat (own_B v_r0 (i + 1) % 2 ^ (4 + 8) / 2 ^ 2 % 32))), (.int (Int32.ofNat (c5 + 1))), (.ref bw)]))
        obtain ⟨T39, h39, X39, e39, W39, A39, st39⟩ := own_stI X37 hx hZ e37 A37 (i := (c5 + 1)) rfl (by omega) (g := (mkF m 79 #[.val (.ref r0), .val (.ref bw), .val (.int (Int32.ofNat (own_B v_r0 (i + 1) % 2 ^ (4 + 8)))), .val (.int (2 : Int32)), .val (.int (Int32.ofNat (c5 + 2))), .val (.ref r0), .val (.int (Int32.ofNat n_r0)), .val (.int (Int32.ofNat i)), .val (.int (v_r0 i))] [(.int (Int32.ofNat (own_B v_r0 (i + 1) % 2 ^ (4 + 8) / 2 ^ 2 % 32))), (.int (Int32.ofNat (c5 + 1))), (.ref bw)])) rfl rfl (hb hby d1_79)
        have N39 := Fr.snoc X39 N37 gw
        have Z39 := Nat.le_trans Z37 (Keep.of_wr W39).1
        have K39 := Keep.wr K37 W39 (Or.inr sw)
        refine Goes.go st39 ?_
        show Goes p e below s _ _ _ (T39.setTop (mkF m 80 #[.val (.ref r0), .val (.ref bw), .val (.int (Int32.ofNat (own_B v_r0 (i + 1) % 2 ^ (4 + 8)))), .val (.int (2 : Int32)), .val (.int (Int32.ofNat (c5 + 2))), .val (.ref r0), .val (.int (Int32.ofNat n_r0)), .val (.int (Int32.ofNat i)), .val (.int (v_r0 i))] []))
        refine Goes.go (fun _ kst => XS.goto X39.here hx rfl (pc0 := 80) (pc' := 59) rfl (hb hby d1_80) (by decide) (by decide) kst) ?_
        show Goes p e below s _ _ _ (T39.setTop (mkF m 59 #[.val (.ref r0), .val (.ref bw), .val (.int (Int32.ofNat (own_B v_r0 (i + 1) % 2 ^ (4 + 8)))), .val (.int (2 : Int32)), .val (.int (Int32.ofNat (c5 + 2))), .val (.ref r0), .val (.int (Int32.ofNat n_r0)), .val (.int (Int32.ofNat i)), .val (.int (v_r0 i))] []))
        refine Goes.go (fun _ kst => XS.iloadN X39.here hx rfl (hb hby d1_59) rfl  kst) ?_
        show Goes p e below s _ _ _ (T39.setTop (mkF m 60 #[.val (.ref r0), .val (.ref bw), .val (.int (Int32.ofNat (own_B v_r0 (i + 1) % 2 ^ (4 + 8)))), .val (.int (2 : Int32)), .val (.int (Int32.ofNat (c5 + 2))), .val (.ref r0), .val (.int (Int32.ofNat n_r0)), .val (.int (Int32.ofNat i)), .val (.int (v_r0 i))] [(.int (2 : Int32))]))
        refine Goes.go (fun _ kst => XS.iconst X39.here hx rfl (hb hby d1_60) kst) ?_
        show Goes p e below s _ _ _ (T39.setTop (mkF m 61 #[.val (.ref r0), .val (.ref bw), .val (.int (Int32.ofNat (own_B v_r0 (i + 1) % 2 ^ (4 + 8)))), .val (.int (2 : Int32)), .val (.int (Int32.ofNat (c5 + 2))), .val (.ref r0), .val (.int (Int32.ofNat n_r0)), .val (.int (Int32.ofNat i)), .val (.int (v_r0 i))] [(.int (5 : Int32)), (.int (2 : Int32))]))
        have hc61_40 : (2 : Int32) < (5 : Int32) := (by decide)
        refine Goes.go (fun _ kst => XS.icmpYes X39.here hx rfl (pc0 := 61) (pc' := 83) rfl (hb hby d1_61) rfl (tlt hc61_40).1 (by decide) (by decide) kst) ?_
        show Goes p e below s _ _ _ (T39.setTop (mkF m 83 #[.val (.ref r0), .val (.ref bw), .val (.int (Int32.ofNat (own_B v_r0 (i + 1) % 2 ^ (4 + 8)))), .val (.int (2 : Int32)), .val (.int (Int32.ofNat (c5 + 2))), .val (.ref r0), .val (.int (Int32.ofNat n_r0)), .val (.int (Int32.ofNat i)), .val (.int (v_r0 i))] []))
        refine Goes.go (fun _ kst => XS.iloadN X39.here hx rfl (hb hby d1_83) rfl  kst) ?_
        show Goes p e below s _ _ _ (T39.setTop (mkF m 84 #[.val (.ref r0), .val (.ref bw), .val (.int (Int32.ofNat (own_B v_r0 (i + 1) % 2 ^ (4 + 8)))), .val (.int (2 : Int32)), .val (.int (Int32.ofNat (c5 + 2))), .val (.ref r0), .val (.int (Int32.ofNat n_r0)), .val (.int (Int32.ofNat i)), .val (.int (v_r0 i))] [(.int (Int32.ofNat (own_B v_r0 (i + 1) % 2 ^ (4 + 8))))]))
        refine Goes.go (fun _ kst => XS.iconst X39.here hx rfl (hb hby d1_84) kst) ?_
        show Goes p e below s _ _ _ (T39.setTop (mkF m 85 #[.val (.ref r0), .val (.ref bw), .val (.int (Int32.ofNat (own_B v_r0 (i + 1) % 2 ^ (4 + 8)))), .val (.int (2 : Int32)), .val (.int (Int32.ofNat (c5 + 2))), .val (.ref r0), .val (.int (Int32.ofNat n_r0)), .val (.int (Int32.ofNat i)), .val (.int (v_r0 i))] [(.int (1 : Int32)), (.int (Int32.ofNat (own_B v_r0 (i + 1) % 2 ^ (4 + 8))))]))
        refine Goes.go (fun _ kst => XS.iloadN X39.here hx rfl (hb hby d1_85) rfl  kst) ?_
        show Goes p e below s _ _ _ (T39.setTop (mkF m 86 #[.val (.ref r0), .val (.ref bw), .val (.int (Int32.ofNat (own_B v_r0 (i + 1) % 2 ^ (4 + 8)))), .val (.int (2 : Int32)), .val (.int (Int32.ofNat (c5 + 2))), .val (.ref r0), .val (.int (Int32.ofNat n_r0)), .val (.int (Int32.ofNat i)), .val (.int (v_r0 i))] [(.int (2 : Int32)), (.int (1 : Int32)), (.int (Int32.ofNat (own_B v_r0 (i + 1) % 2 ^ (4 + 8))))]))
        refine Goes.go (fun _ kst => XS.ishl X39.here hx rfl (hb hby d1_86) rfl kst) ?_
        show Goes p e below s _ _ _ (T39.setTop (mkF m 87 #[.val (.ref r0), .val (.ref bw), .val (.int (Int32.ofNat (own_B v_r0 (i + 1) % 2 ^ (4 + 8)))), .val (.int (2 : Int32)), .val (.int (Int32.ofNat (c5 + 2))), .val (.ref r0), .val (.int (Int32.ofNat n_r0)), .val (.int (Int32.ofNat i)), .val (.int (v_r0 i))] [(.int ((1 : Int32) <<< ((2 : Int32) &&& 31))), (.int (Int32.ofNat (own_B v_r0 (i + 1) % 2 ^ (4 + 8))))]))
        refine Goes.go (fun _ kst => XS.iconst X39.here hx rfl (hb hby d1_87) kst) ?_
        show Goes p e below s _ _ _ (T39.setTop (mkF m 88 #[.val (.ref r0), .val (.ref bw), .val (.int (Int32.ofNat (own_B v_r0 (i + 1) % 2 ^ (4 + 8)))), .val (.int (2 : Int32)), .val (.int (Int32.ofNat (c5 + 2))), .val (.ref r0), .val (.int (Int32.ofNat n_r0)), .val (.int (Int32.ofNat i)), .val (.int (v_r0 i))] [(.int (1 : Int32)), (.int ((1 : Int32) <<< ((2 : Int32) &&& 31))), (.int (Int32.ofNat (own_B v_r0 (i + 1) % 2 ^ (4 + 8))))]))
        refine Goes.go (fun _ kst => XS.isub X39.here hx rfl (hb hby d1_88) rfl kst) ?_
        show Goes p e below s _ _ _ (T39.setTop (mkF m 89 #[.val (.ref r0), .val (.ref bw), .val (.int (Int32.ofNat (own_B v_r0 (i + 1) % 2 ^ (4 + 8)))), .val (.int (2 : Int32)), .val (.int (Int32.ofNat (c5 + 2))), .val (.ref r0), .val (.int (Int32.ofNat n_r0)), .val (.int (Int32.ofNat i)), .val (.int (v_r0 i))] [(.int (((1 : Int32) <<< ((2 : Int32) &&& 31)) - (1 : Int32))), (.int (Int32.ofNat (own_B v_r0 (i + 1) % 2 ^ (4 + 8))))]))
        refine Goes.go (fun _ kst => XS.iand X39.here hx rfl (hb hby d1_89) rfl kst) ?_
        rw [show ((Int32.ofNat (own_B v_r0 (i + 1) % 2 ^ (4 + 8))) &&& (((1 : Int32) <<< ((2 : Int32) &&& 31)) - (1 : Int32))) = (Int32.ofNat (own_B v_r0 (i + 1) % 2 ^ (4 + 8) % 2 ^ 2)) from own_mk hA (by decide) (by decide)]
        rw [own_mm (b := 4) (k := 2) (by decide)]
        show Goes p e below s _ _ _ (T39.setTop (mkF m 90 #[.val (.ref r0), .val (.ref bw), .val (.int (Int32.ofNat (own_B v_r0 (i + 1) % 2 ^ (4 + 8)))), .val (.int (2 : Int32)), .val (.int (Int32.ofNat (c5 + 2))), .val (.ref r0), .val (.int (Int32.ofNat n_r0)), .val (.int (Int32.ofNat i)), .val (.int (v_r0 i))] [(.int (Int32.ofNat (own_B v_r0 (i + 1) % 2 ^ 2)))]))
        refine Goes.go (fun _ kst => XS.istoreN X39.here hx rfl (hb hby d1_90) rfl (l' := #[.val (.ref r0), .val (.ref bw), .val (.int (Int32.ofNat (own_B v_r0 (i + 1) % 2 ^ 2))), .val (.int (2 : Int32)), .val (.int (Int32.ofNat (c5 + 2))), .val (.ref r0), .val (.int (Int32.ofNat n_r0)), .val (.int (Int32.ofNat i)), .val (.int (v_r0 i))]) rfl kst) ?_
        show Goes p e below s _ _ _ (T39.setTop (mkF m 91 #[.val (.ref r0), .val (.ref bw), .val (.int (Int32.ofNat (own_B v_r0 (i + 1) % 2 ^ 2))), .val (.int (2 : Int32)), .val (.int (Int32.ofNat (c5 + 2))), .val (.ref r0), .val (.int (Int32.ofNat n_r0)), .val (.int (Int32.ofNat i)), .val (.int (v_r0 i))] []))
        refine Goes.go (fun _ kst => XS.iinc X39.here hx rfl (hb hby d1_91) rfl (l' := #[.val (.ref r0), .val (.ref bw), .val (.int (Int32.ofNat (own_B v_r0 (i + 1) % 2 ^ 2))), .val (.int (2 : Int32)), .val (.int (Int32.ofNat (c5 + 2))), .val (.ref r0), .val (.int (Int32.ofNat n_r0)), .val (.int ((Int32.ofNat i) + (1 : Int32))), .val (.int (v_r0 i))]) rfl kst) ?_
        rw [show (Int32.ofNat i + (1 : Int32)) = Int32.ofNat (i + 1) from own_add (n := 1) (by omega)]
        show Goes p e below s _ _ _ (T39.setTop (mkF m 94 #[.val (.ref r0), .val (.ref bw), .val (.int (Int32.ofNat (own_B v_r0 (i + 1) % 2 ^ 2))), .val (.int (2 : Int32)), .val (.int (Int32.ofNat (c5 + 2))), .val (.ref r0), .val (.int (Int32.ofNat n_r0)), .val (.int (Int32.ofNat (i + 1))), .val (.int (v_r0 i))] []))
        refine Goes.go (fun _ kst => XS.goto X39.here hx rfl (pc0 := 94) (pc' := 30) rfl (hb hby d1_94) (by decide) (by decide) kst) ?_
        exact ih (i + 1) 2 (c5 + 2) _ bw X39 e39 N39 Z39 K39 ((A39).as (fun k _ => own_F2 (b := 4) hc hbv (by decide) (by omega) k)) gw sw n0w (One.val rfl) (by omega) (by omega) (by omega)
  show Goes p e below s _ _ _ (s₁.setTop (mkF m 0 #[.val (.ref r0), .unset, .unset, .unset, .unset, .unset, .unset, .unset, .unset] []))
  refine Goes.go (fun _ kst => XS.aloadN X0.here hx rfl (hb hby d1_0) rfl rfl  kst) ?_
  show Goes p e below s _ _ _ (s₁.setTop (mkF m 1 #[.val (.ref r0), .unset, .unset, .unset, .unset, .unset, .unset, .unset, .unset] [(.ref r0)]))
  refine Goes.go (own_len X0 hx hZ e0 A_r0 (g := (mkF m 1 #[.val (.ref r0), .unset, .unset, .unset, .unset, .unset, .unset, .unset, .unset] [(.ref r0)])) rfl rfl (hb hby d1_1)) ?_
  show Goes p e below s _ _ _ (s₁.setTop (mkF m 2 #[.val (.ref r0), .unset, .unset, .unset, .unset, .unset, .unset, .unset, .unset] [(.int (Int32.ofNat n_r0))]))
  refine Goes.go (fun _ kst => XS.bipush X0.here hx rfl (hb hby d1_2) kst) ?_
  show Goes p e below s _ _ _ (s₁.setTop (mkF m 4 #[.val (.ref r0), .unset, .unset, .unset, .unset, .unset, .unset, .unset, .unset] [(.int (8 : Int32)), (.int (Int32.ofNat n_r0))]))
  refine Goes.go (fun _ kst => XS.imul X0.here hx rfl (hb hby d1_4) rfl kst) ?_
  show Goes p e below s _ _ _ (s₁.setTop (mkF m 5 #[.val (.ref r0), .unset, .unset, .unset, .unset, .unset, .unset, .unset, .unset] [(.int ((Int32.ofNat n_r0) * (8 : Int32)))]))
  refine Goes.go (fun _ kst => XS.iconst X0.here hx rfl (hb hby d1_5) kst) ?_
  show Goes p e below s _ _ _ (s₁.setTop (mkF m 6 #[.val (.ref r0), .unset, .unset, .unset, .unset, .unset, .unset, .unset, .unset] [(.int (4 : Int32)), (.int ((Int32.ofNat n_r0) * (8 : Int32)))]))
  refine Goes.go (fun _ kst => XS.iadd X0.here hx rfl (hb hby d1_6) rfl kst) ?_
  show Goes p e below s _ _ _ (s₁.setTop (mkF m 7 #[.val (.ref r0), .unset, .unset, .unset, .unset, .unset, .unset, .unset, .unset] [(.int (((Int32.ofNat n_r0) * (8 : Int32)) + (4 : Int32)))]))
  refine Goes.go (fun _ kst => XS.iconst X0.here hx rfl (hb hby d1_7) kst) ?_
  show Goes p e below s _ _ _ (s₁.setTop (mkF m 8 #[.val (.ref r0), .unset, .unset, .unset, .unset, .unset, .unset, .unset, .unset] [(.int (5 : Int32)), (.int (((Int32.ofNat n_r0) * (8 : Int32)) + (4 : Int32)))]))
  refine Goes.go (fun _ kst => XS.idiv X0.here hx rfl (hb hby d1_8) rfl (by decide) kst) ?_
  show Goes p e below s _ _ _ (s₁.setTop (mkF m 9 #[.val (.ref r0), .unset, .unset, .unset, .unset, .unset, .unset, .unset, .unset] [(.int ((((Int32.ofNat n_r0) * (8 : Int32)) + (4 : Int32)) / (5 : Int32)))]))
  obtain ⟨T41, h41, X41, e41, E41, A41, EA41, st41⟩ := own_newA X0 hx hZ (hw _ (List.mem_of_getElem? (i := 1) rfl)) e0 (g := (mkF m 9 #[.val (.ref r0), .unset, .unset, .unset, .unset, .unset, .unset, .unset, .unset] [(.int ((((Int32.ofNat n_r0) * (8 : Int32)) + (4 : Int32)) / (5 : Int32)))])) rfl (hb hby d1_9) rfl (n := ((8 * n_r0 + 4) / 5)) (own_nlen hn8) (cap := 13) (by omega) (by decide) (by decide) (by decide) (by decide) (by decide) (by decide : _ = "[I")
  obtain ⟨b41, g41⟩ : ∃ z, z = h0.size := ⟨_, rfl⟩
  rw [← g41] at A41 EA41 st41
  have gb41 : n0 ≤ b41 := Nat.le_trans Z0 (Nat.le_of_eq g41.symm)
  have sb41 : h0.size ≤ b41 := Nat.le_trans K0.1 (Nat.le_of_eq g41.symm)
  have Z41 := Nat.le_trans Z0 E41.1
  have K41 := Keep.ext K0 E41
  refine Goes.go st41 ?_
  show Goes p e below s _ _ _ (T41.setTop (mkF m 11 #[.val (.ref r0), .unset, .unset, .unset, .unset, .unset, .unset, .unset, .unset] [(.ref b41)]))
  refine Goes.go (fun _ kst => XS.astoreN X41.here hx rfl (hb hby d1_11) rfl rfl (l' := #[.val (.ref r0), .val (.ref b41), .unset, .unset, .unset, .unset, .unset, .unset, .unset]) rfl kst) ?_
  show Goes p e below s _ _ _ (T41.setTop (mkF m 12 #[.val (.ref r0), .val (.ref b41), .unset, .unset, .unset, .unset, .unset, .unset, .unset] []))
  refine Goes.go (fun _ kst => XS.iconst X41.here hx rfl (hb hby d1_12) kst) ?_
  show Goes p e below s _ _ _ (T41.setTop (mkF m 13 #[.val (.ref r0), .val (.ref b41), .unset, .unset, .unset, .unset, .unset, .unset, .unset] [(.int (0 : Int32))]))
  refine Goes.go (fun _ kst => XS.istoreN X41.here hx rfl (hb hby d1_13) rfl (l' := #[.val (.ref r0), .val (.ref b41), .val (.int (0 : Int32)), .unset, .unset, .unset, .unset, .unset, .unset]) rfl kst) ?_
  show Goes p e below s _ _ _ (T41.setTop (mkF m 14 #[.val (.ref r0), .val (.ref b41), .val (.int (0 : Int32)), .unset, .unset, .unset, .unset, .unset, .unset] []))
  refine Goes.go (fun _ kst => XS.iconst X41.here hx rfl (hb hby d1_14) kst) ?_
  show Goes p e below s _ _ _ (T41.setTop (mkF m 15 #[.val (.ref r0), .val (.ref b41), .val (.int (0 : Int32)), .unset, .unset, .unset, .unset, .unset, .unset] [(.int (0 : Int32))]))
  refine Goes.go (fun _ kst => XS.istoreN X41.here hx rfl (hb hby d1_15) rfl (l' := #[.val (.ref r0), .val (.ref b41), .val (.int (0 : Int32)), .val (.int (0 : Int32)), .unset, .unset, .unset, .unset, .unset]) rfl kst) ?_
  show Goes p e below s _ _ _ (T41.setTop (mkF m 16 #[.val (.ref r0), .val (.ref b41), .val (.int (0 : Int32)), .val (.int (0 : Int32)), .unset, .unset, .unset, .unset, .unset] []))
  refine Goes.go (fun _ kst => XS.iconst X41.here hx rfl (hb hby d1_16) kst) ?_
  show Goes p e below s _ _ _ (T41.setTop (mkF m 17 #[.val (.ref r0), .val (.ref b41), .val (.int (0 : Int32)), .val (.int (0 : Int32)), .unset, .unset, .unset, .unset, .unset] [(.int (0 : Int32))]))
  refine Goes.go (fun _ kst => XS.istore X41.here hx rfl (hb hby d1_17) rfl (l' := #[.val (.ref r0), .val (.ref b41), .val (.int (0 : Int32)), .val (.int (0 : Int32)), .val (.int (0 : Int32)), .unset, .unset, .unset, .unset]) rfl kst) ?_
  show Goes p e below s _ _ _ (T41.setTop (mkF m 19 #[.val (.ref r0), .val (.ref b41), .val (.int (0 : Int32)), .val (.int (0 : Int32)), .val (.int (0 : Int32)), .unset, .unset, .unset, .unset] []))
  refine Goes.go (fun _ kst => XS.aloadN X41.here hx rfl (hb hby d1_19) rfl rfl  kst) ?_
  show Goes p e below s _ _ _ (T41.setTop (mkF m 20 #[.val (.ref r0), .val (.ref b41), .val (.int (0 : Int32)), .val (.int (0 : Int32)), .val (.int (0 : Int32)), .unset, .unset, .unset, .unset] [(.ref r0)]))
  refine Goes.go (fun _ kst => XS.astore X41.here hx rfl (hb hby d1_20) rfl rfl (l' := #[.val (.ref r0), .val (.ref b41), .val (.int (0 : Int32)), .val (.int (0 : Int32)), .val (.int (0 : Int32)), .val (.ref r0), .unset, .unset, .unset]) rfl kst) ?_
  show Goes p e below s _ _ _ (T41.setTop (mkF m 22 #[.val (.ref r0), .val (.ref b41), .val (.int (0 : Int32)), .val (.int (0 : Int32)), .val (.int (0 : Int32)), .val (.ref r0), .unset, .unset, .unset] []))
  refine Goes.go (fun _ kst => XS.aload X41.here hx rfl (hb hby d1_22) rfl rfl  kst) ?_
  show Goes p e below s _ _ _ (T41.setTop (mkF m 24 #[.val (.ref r0), .val (.ref b41), .val (.int (0 : Int32)), .val (.int (0 : Int32)), .val (.int (0 : Int32)), .val (.ref r0), .unset, .unset, .unset] [(.ref r0)]))
  refine Goes.go (own_len X41 hx hZ e41 (A_r0.ext E41) (g := (mkF m 24 #[.val (.ref r0), .val (.ref b41), .val (.int (0 : Int32)), .val (.int (0 : Int32)), .val (.int (0 : Int32)), .val (.ref r0), .unset, .unset, .unset] [(.ref r0)])) rfl rfl (hb hby d1_24)) ?_
  show Goes p e below s _ _ _ (T41.setTop (mkF m 25 #[.val (.ref r0), .val (.ref b41), .val (.int (0 : Int32)), .val (.int (0 : Int32)), .val (.int (0 : Int32)), .val (.ref r0), .unset, .unset, .unset] [(.int (Int32.ofNat n_r0))]))
  refine Goes.go (fun _ kst => XS.istore X41.here hx rfl (hb hby d1_25) rfl (l' := #[.val (.ref r0), .val (.ref b41), .val (.int (0 : Int32)), .val (.int (0 : Int32)), .val (.int (0 : Int32)), .val (.ref r0), .val (.int (Int32.ofNat n_r0)), .unset, .unset]) rfl kst) ?_
  show Goes p e below s _ _ _ (T41.setTop (mkF m 27 #[.val (.ref r0), .val (.ref b41), .val (.int (0 : Int32)), .val (.int (0 : Int32)), .val (.int (0 : Int32)), .val (.ref r0), .val (.int (Int32.ofNat n_r0)), .unset, .unset] []))
  refine Goes.go (fun _ kst => XS.iconst X41.here hx rfl (hb hby d1_27) kst) ?_
  show Goes p e below s _ _ _ (T41.setTop (mkF m 28 #[.val (.ref r0), .val (.ref b41), .val (.int (0 : Int32)), .val (.int (0 : Int32)), .val (.int (0 : Int32)), .val (.ref r0), .val (.int (Int32.ofNat n_r0)), .unset, .unset] [(.int (0 : Int32))]))
  refine Goes.go (fun _ kst => XS.istore X41.here hx rfl (hb hby d1_28) rfl (l' := #[.val (.ref r0), .val (.ref b41), .val (.int (0 : Int32)), .val (.int (0 : Int32)), .val (.int (0 : Int32)), .val (.ref r0), .val (.int (Int32.ofNat n_r0)), .val (.int (0 : Int32)), .unset]) rfl kst) ?_
  exact LP n_r0 0 0 0 _ b41 X41 e41 N0 Z41 K41 (A41.as (fun k _ => (if_neg (Nat.not_lt_zero k)).symm)) gb41 sb41 (Nat.ne_of_lt (Nat.lt_of_lt_of_le A_r0.lt (Nat.le_of_eq g41.symm))) One.u (by omega) rfl rfl
theorem own_b8 (u : Int32) : (u.toInt8.toInt32).toInt % 256 = u.toInt % 256 := by
  rw [Int8.toInt_toInt32, Int32.toInt_toInt8]
  exact Int.bmod_emod
theorem own_z32 (z : Int64) : z.toInt32.toInt % 256 = z.toInt % 256 := by
  rw [Int64.toInt_toInt32]
  have h : (z.toInt.bmod (2 ^ 32)) % ((2 ^ 32 : Nat) : Int) = z.toInt % ((2 ^ 32 : Nat) : Int) := Int.bmod_emod
  have h1 := Int.emod_emod_of_dvd (z.toInt.bmod (2 ^ 32)) (show (256 : Int) ∣ ((2 ^ 32 : Nat) : Int) by decide)
  have h2 := Int.emod_emod_of_dvd z.toInt (show (256 : Int) ∣ ((2 ^ 32 : Nat) : Int) by decide)
  rw [← h1, h, h2]
theorem own_zN (z : Int64) (m : Nat) (hm : m ∣ 2 ^ 64) : z.toInt % (m : Int) = ((z.toBitVec.toNat % m : Nat) : Int) := by
  have e : z.toInt = Int.bmod z.toBitVec.toNat (2 ^ 64) := BitVec.toInt_eq_toNat_bmod _
  rw [e]
  have h1 := Int.emod_emod_of_dvd (Int.bmod z.toBitVec.toNat (2 ^ 64)) (show (m : Int) ∣ ((2 ^ 64 : Nat) : Int) from Int.natCast_dvd_natCast.mpr hm)
  rw [← h1, Int.bmod_emod, Int.emod_emod_of_dvd _ (show (m : Int) ∣ ((2 ^ 64 : Nat) : Int) from Int.natCast_dvd_natCast.mpr hm)]
  rfl
theorem own_ushr (x : Int64) {n : UInt64} {k : Nat} (hn : n.toNat = k) (hk : k < 64) : ((x.toUInt64 >>> n).toInt64).toBitVec.toNat = x.toBitVec.toNat / 2 ^ k := by
  simp only [UInt64.toBitVec_toInt64, UInt64.toBitVec_shiftRight, Int64.toBitVec_toUInt64]
  simp [BitVec.toNat_ushiftRight, Nat.shiftRight_eq_div_pow, hn, Nat.mod_eq_of_lt hk]
theorem own_ubz (z : Int64) : own_ub (nar .byte (z.toInt32.toInt8.toInt32)) = z.toBitVec.toNat % 256 := by
  have h := own_ub1 (nar .byte (z.toInt32.toInt8.toInt32))
  have e1 := congrArg Int32.toInt h.1
  rw [own_nat (by omega), Jvm.Kit.i32_mask _ 255 (k := 8) (by decide) (by decide)] at e1
  have e2 : (nar .byte (z.toInt32.toInt8.toInt32)).toInt % 2 ^ 8 = ((z.toBitVec.toNat % 256 : Nat) : Int) := by
    show ((z.toInt32.toInt8.toInt32).toInt8.toInt32).toInt % 256 = _
    rw [own_b8, own_b8, own_z32]
    exact own_zN z 256 (by decide)
  rw [e2] at e1
  omega
theorem own_msk (q m : Int64) {s : Nat} (hs : s < 64) (hm : m.toBitVec = BitVec.allOnes 64 <<< s) : (q &&& m).toBitVec.toNat = q.toBitVec.toNat / 2 ^ s * 2 ^ s := by
  have e : (q &&& m).toBitVec = (q.toBitVec >>> s) <<< s := by
    show q.toBitVec &&& m.toBitVec = _
    rw [hm]
    apply BitVec.eq_of_getLsbD_eq
    intro i hi
    by_cases h : i < s
    · simp [BitVec.getLsbD_and, BitVec.getLsbD_shiftLeft, h]
    · have h1 : s + (i - s) = i := by omega
      have h2 : i - s < 64 := by omega
      simp only [BitVec.getLsbD_and, BitVec.getLsbD_shiftLeft, BitVec.getLsbD_ushiftRight, BitVec.getLsbD_allOnes, h, hi, h1, h2, decide_true, decide_false, Bool.not_false, Bool.true_and, Bool.and_true]
  have hlt := q.toBitVec.isLt
  have hle : q.toBitVec.toNat / 2 ^ s * 2 ^ s ≤ q.toBitVec.toNat := Nat.div_mul_le_self _ _
  rw [e, BitVec.toNat_shiftLeft, BitVec.toNat_ushiftRight, Nat.shiftRight_eq_div_pow, Nat.shiftLeft_eq, Nat.mod_eq_of_lt (by omega)]
theorem own_BL {v : Nat → Int32} {L : Nat} (hL : L < 2 ^ 64) : ∀ (j : Nat), j ≤ 8 → (∀ i, i < j → own_ub (v i) = L / 2 ^ (56 - 8 * i) % 256) → own_B v j = L / 2 ^ (64 - 8 * j)
  | 0, _, _ => (Nat.div_eq_of_lt hL).symm
  | j + 1, hj, h => by
    have ih := own_BL hL j (by omega) (fun i hi => h i (by omega))
    show own_B v j * 256 + own_ub (v j) = _
    rw [ih, h j (by omega), show 64 - 8 * (j + 1) = 56 - 8 * j by omega, show 64 - 8 * j = (56 - 8 * j) + 8 by omega, Nat.pow_add, ← Nat.div_div_eq_div_mul]
    show L / 2 ^ (56 - 8 * j) / 256 * 256 + L / 2 ^ (56 - 8 * j) % 256 = _
    omega
theorem own_m31 (z : Int64) : (z &&& (31 : Int64)).toInt32 = Int32.ofNat (z.toBitVec.toNat % 32) := by
  have h := Jvm.Kit.i64_mask z 31 (k := 5) (by decide) (by decide)
  have h2 := own_zN z 32 (by decide)
  have e : (z &&& (31 : Int64)).toInt = ((z.toBitVec.toNat % 32 : Nat) : Int) := h.trans h2
  apply own_eqNat
  rw [Jvm.Kit.i32_of_i64 (by rw [e]; omega) (by rw [e]; omega), e]
/-- what the array holds is what the law expects -/
theorem own_RY {v : Nat → Int32} {n k Y : Nat} (hn : n ≤ 8) (hY : Y = own_B v n * 2 ^ (64 - 8 * n)) (hk : k < (8 * n + 4) / 5) (hk2 : k < 12) : own_R v n k = Int32.ofNat (Y / 2 ^ (59 - 5 * k) % 32) := by
  unfold own_R
  by_cases h : k < 8 * n / 5
  · rw [if_pos h]
    unfold own_val
    rw [hY, show 59 - 5 * k = (8 * n - 5 * k - 5) + (64 - 8 * n) by omega, Nat.pow_add, Nat.mul_div_mul_right _ _ (Nat.pow_pos (by decide))]
  · rw [if_neg h]
    have hb : 0 < 8 * n % 5 := by omega
    have e1 : Y / 2 ^ (59 - 5 * k) = own_B v n * 2 ^ (5 - 8 * n % 5) := by
      rw [hY, show 64 - 8 * n = (5 - 8 * n % 5) + (59 - 5 * k) by omega, Nat.pow_add, ← Nat.mul_assoc, Nat.mul_div_cancel _ (Nat.pow_pos (by decide))]
    rw [e1]
    have e2 : (32 : Nat) = 2 ^ (8 * n % 5) * 2 ^ (5 - 8 * n % 5) := by
      rw [← Nat.pow_add, show 8 * n % 5 + (5 - 8 * n % 5) = 5 by omega]
    rw [e2, Nat.mul_mod_mul_right, Nat.mul_mod_mul_right, Nat.mod_mod]
theorem own_RY12 {v : Nat → Int32} {n Y : Nat} (hn : n ≤ 8) (hY : Y = own_B v n * 2 ^ (64 - 8 * n)) (hk : 12 < (8 * n + 4) / 5) : own_R v n 12 = Int32.ofNat (Y * 2 % 2 ^ 64 % 32) := by
  have h8 : n = 8 := by omega
  subst h8
  unfold own_R
  rw [if_neg (by decide), Nat.mod_mod_of_dvd _ (by decide), hY]
  show Int32.ofNat (own_B v 8 % 16 * 2 % 32) = Int32.ofNat (own_B v 8 * 1 * 2 % 32)
  congr 1
  omega
theorem d3_0 : decode method_2_code 0 = .ok (.iload_n 0, 1) := by decide +kernel
theorem d3_1 : decode method_2_code 1 = .ok (.bipush 12, 2) := by decide +kernel
theorem d3_3 : decode method_2_code 3 = .ok (.if_icmp .ge 17, 3) := by decide +kernel
theorem d3_6 : decode method_2_code 6 = .ok (.lload_n 1, 1) := by decide +kernel
theorem d3_7 : decode method_2_code 7 = .ok (.bipush 59, 2) := by decide +kernel
theorem d3_9 : decode method_2_code 9 = .ok (.iconst 5, 1) := by decide +kernel
theorem d3_10 : decode method_2_code 10 = .ok (.iload_n 0, 1) := by decide +kernel
theorem d3_11 : decode method_2_code 11 = .ok (.imul, 1) := by decide +kernel
theorem d3_12 : decode method_2_code 12 = .ok (.isub, 1) := by decide +kernel
theorem d3_13 : decode method_2_code 13 = .ok (.lushr, 1) := by decide +kernel
theorem d3_14 : decode method_2_code 14 = .ok (.ldc2_w 7, 3) := by decide +kernel
theorem d3_17 : decode method_2_code 17 = .ok (.land, 1) := by decide +kernel
theorem d3_18 : decode method_2_code 18 = .ok (.l2i, 1) := by decide +kernel
theorem d3_19 : decode method_2_code 19 = .ok (.ireturn, 1) := by decide +kernel
theorem d3_20 : decode method_2_code 20 = .ok (.lload_n 1, 1) := by decide +kernel
theorem d3_21 : decode method_2_code 21 = .ok (.iconst 1, 1) := by decide +kernel
theorem d3_22 : decode method_2_code 22 = .ok (.lshl, 1) := by decide +kernel
theorem d3_23 : decode method_2_code 23 = .ok (.ldc2_w 7, 3) := by decide +kernel
theorem d3_26 : decode method_2_code 26 = .ok (.land, 1) := by decide +kernel
theorem d3_27 : decode method_2_code 27 = .ok (.l2i, 1) := by decide +kernel
theorem d3_28 : decode method_2_code 28 = .ok (.ireturn, 1) := by decide +kernel
theorem pn_3 : plainName "com/example/outpoint/outpoint/Bech32ToFiveBitPinLaw" = true := by first | (simp [plainName, overriddenIn]; done) | decide +kernel
theorem ef_rm3 (m : MethodId) (x0 : Int32) (x1 : Int64) : entryFrame m #[(.int x0), (.long x1)] 3 = mkF m 0 #[.val (.int x0), .val (.long x1), .second] [] := by first | (simp [entryFrame, mkF, argsToLocals, Value.category]; done) | rfl
def f3 (p0 : Int32) (q1 : Int64) : Int32 := (if p0 < (12 : Int32) then ((((q1.toUInt64 >>> (((59 : Int32) - ((5 : Int32) * p0)) &&& 0x3f).toInt64.toUInt64).toInt64) &&& (31 : Int64)).toInt32) else (((q1 <<< ((1 : Int32) &&& 0x3f).toInt64) &&& (31 : Int64)).toInt32))
set_option maxRecDepth 65536 in
set_option maxHeartbeats 40000000 in
theorem rm3 (l : Launch) (Z : State) (a0 : Array Value) (hw : ∀ d ∈ tables_1, d.before a0 Z = true) (ws : List Jvm.Cond) (p0 : Int32) (q1 : Int64) (h0 : Heap) (n0 : Nat) (Z0 : n0 ≤ h0.size) :
    MetFree l (⟨"com/example/outpoint/outpoint/Bech32ToFiveBitPinLaw", "expected", "(IJ)I"⟩ : MethodName) (head1 (Jvm.Cond.code (⟨"com/example/outpoint/outpoint/Bech32ToFiveBitPinLaw", "expected", "(IJ)I"⟩ : MethodName) method_2_code 3 (some .int) :: ws) ({ frames := 0, cells := 0, slots := 0, locals := 0 } : Room)) (fun a U => a = #[(.int p0), (.long q1)] ∧ Z.Warmed39 U.vm ∧ U.heap = h0) (fun _ _ _ _ _ => True) (fun _ U o U' => ∃ v L, o = .returned v ∧ Qp (.int (f3 p0 q1)) h0 n0 v U'.heap L ∧ FrameEnd U o U' L ({ frames := 0, cells := 0, slots := 0, locals := 0 } : Room).cells ({ frames := 0, cells := 0, slots := 0, locals := 0 } : Room).slots) := by
  refine MetFree.of_bodySF (plainFor_of_name pn_3) hisR ?_
  intro p e s m args below meth c s₁ Bd hml0 hP hK
  obtain ⟨rfl, hZ, hh⟩ := hP
  have hx := Bd.exec
  have hby := Bd.bytes
  have hml : c.maxLocals = 3 := hml0
  have hown : s.vm.findClass "com/example/outpoint/outpoint/Bech32ToFiveBitPinLaw" = some m.cls := findClass_of_methodNamed Bd.named
  have hnm := (name_of_methodNamed Bd.named Bd.method).1
  have hlk : meth.locks = false := BodyLoose.notSynchronized Bd
  have X0 : Stand p l e ({ frames := 0, cells := 0, slots := 0, locals := 0 } : Room) s m #[(.int p0), (.long q1)] below meth c s₁ [] 0 0 := Stand.of_body Bd
  have e0 : s₁.heap = h0 := by rw [← hh, Bd.state]; rfl
  have N0 := Fr.nil n0
  have K0 : Keep h0 h0 [] := Keep.refl _ _
  show Goes p e below s (Qp (.int (f3 p0 q1)) h0 n0) ({ frames := 0, cells := 0, slots := 0, locals := 0 } : Room).cells ({ frames := 0, cells := 0, slots := 0, locals := 0 } : Room).slots (s₁.setTop (entryFrame m #[(.int p0), (.long q1)] 3))
  rw [ef_rm3]
  show Goes p e below s _ _ _ (s₁.setTop (mkF m 0 #[.val (.int p0), .val (.long q1), .second] []))
  refine Goes.go (fun _ kst => XS.iloadN X0.here hx rfl (hb hby d3_0) rfl  kst) ?_
  show Goes p e below s _ _ _ (s₁.setTop (mkF m 1 #[.val (.int p0), .val (.long q1), .second] [(.int p0)]))
  refine Goes.go (fun _ kst => XS.bipush X0.here hx rfl (hb hby d3_1) kst) ?_
  show Goes p e below s _ _ _ (s₁.setTop (mkF m 3 #[.val (.int p0), .val (.long q1), .second] [(.int (12 : Int32)), (.int p0)]))
  by_cases hc3_1 : p0 < (12 : Int32)
  · skip
    refine Goes.qi (if_pos hc3_1) ?_
    refine Goes.go (fun _ kst => XS.icmpNo X0.here hx rfl (hb hby d3_3) rfl (tlt hc3_1).2.1 kst) ?_
    show Goes p e below s _ _ _ (s₁.setTop (mkF m 6 #[.val (.int p0), .val (.long q1), .second] []))
    refine Goes.go (fun _ kst => XS.lloadN X0.here hx rfl (hb hby d3_6) rfl  kst) ?_
    show Goes p e below s _ _ _ (s₁.setTop (mkF m 7 #[.val (.int p0), .val (.long q1), .second] [(.long q1)]))
    refine Goes.go (fun _ kst => XS.bipush X0.here hx rfl (hb hby d3_7) kst) ?_
    show Goes p e below s _ _ _ (s₁.setTop (mkF m 9 #[.val (.int p0), .val (.long q1), .second] [(.int (59 : Int32)), (.long q1)]))
    refine Goes.go (fun _ kst => XS.iconst X0.here hx rfl (hb hby d3_9) kst) ?_
    show Goes p e below s _ _ _ (s₁.setTop (mkF m 10 #[.val (.int p0), .val (.long q1), .second] [(.int (5 : Int32)), (.int (59 : Int32)), (.long q1)]))
    refine Goes.go (fun _ kst => XS.iloadN X0.here hx rfl (hb hby d3_10) rfl  kst) ?_
    show Goes p e below s _ _ _ (s₁.setTop (mkF m 11 #[.val (.int p0), .val (.long q1), .second] [(.int p0), (.int (5 : Int32)), (.int (59 : Int32)), (.long q1)]))
    refine Goes.go (fun _ kst => XS.imul X0.here hx rfl (hb hby d3_11) rfl kst) ?_
    show Goes p e below s _ _ _ (s₁.setTop (mkF m 12 #[.val (.int p0), .val (.long q1), .second] [(.int ((5 : Int32) * p0)), (.int (59 : Int32)), (.long q1)]))
    refine Goes.go (fun _ kst => XS.isub X0.here hx rfl (hb hby d3_12) rfl kst) ?_
    show Goes p e below s _ _ _ (s₁.setTop (mkF m 13 #[.val (.int p0), .val (.long q1), .second] [(.int ((59 : Int32) - ((5 : Int32) * p0))), (.long q1)]))
    refine Goes.go (fun _ kst => XS.lushr X0.here hx rfl (hb hby d3_13) rfl kst) ?_
    show Goes p e below s _ _ _ (s₁.setTop (mkF m 14 #[.val (.int p0), .val (.long q1), .second] [(.long ((q1.toUInt64 >>> (((59 : Int32) - ((5 : Int32) * p0)) &&& 0x3f).toInt64.toUInt64).toInt64))]))
    refine Goes.go (fun _ kst => X0.ldc2Long hx hown (mvT hZ (hw _ (List.mem_of_getElem? (i := 15) rfl))) (g := (mkF m 14 #[.val (.int p0), .val (.long q1), .second] [(.long ((q1.toUInt64 >>> (((59 : Int32) - ((5 : Int32) * p0)) &&& 0x3f).toInt64.toUInt64).toInt64))])) rfl (hb hby d3_14) _ kst) ?_
    show Goes p e below s _ _ _ (s₁.setTop (mkF m 17 #[.val (.int p0), .val (.long q1), .second] [(.long (31 : Int64)), (.long ((q1.toUInt64 >>> (((59 : Int32) - ((5 : Int32) * p0)) &&& 0x3f).toInt64.toUInt64).toInt64))]))
    refine Goes.go (fun _ kst => XS.land X0.here hx rfl (hb hby d3_17) rfl kst) ?_
    show Goes p e below s _ _ _ (s₁.setTop (mkF m 18 #[.val (.int p0), .val (.long q1), .second] [(.long (((q1.toUInt64 >>> (((59 : Int32) - ((5 : Int32) * p0)) &&& 0x3f).toInt64.toUInt64).toInt64) &&& (31 : Int64)))]))
    refine Goes.go (fun _ kst => XS.l2i X0.here hx rfl (hb hby d3_18) rfl kst) ?_
    show Goes p e below s _ _ _ (s₁.setTop (mkF m 19 #[.val (.int p0), .val (.long q1), .second] [(.int ((((q1.toUInt64 >>> (((59 : Int32) - ((5 : Int32) * p0)) &&& 0x3f).toInt64.toUInt64).toInt64) &&& (31 : Int64)).toInt32))]))
    refine Goes.retI X0 hx hlk Bd.returns (hb hby d3_19) ?_ (by decide) (by decide)
    exact ⟨by rfl, N0, e0⟩
  · skip
    refine Goes.qi (if_neg hc3_1) ?_
    refine Goes.go (fun _ kst => XS.icmpYes X0.here hx rfl (pc0 := 3) (pc' := 20) rfl (hb hby d3_3) rfl (flt hc3_1).2.1 (by decide) (by decide) kst) ?_
    show Goes p e below s _ _ _ (s₁.setTop (mkF m 20 #[.val (.int p0), .val (.long q1), .second] []))
    refine Goes.go (fun _ kst => XS.lloadN X0.here hx rfl (hb hby d3_20) rfl  kst) ?_
    show Goes p e below s _ _ _ (s₁.setTop (mkF m 21 #[.val (.int p0), .val (.long q1), .second] [(.long q1)]))
    refine Goes.go (fun _ kst => XS.iconst X0.here hx rfl (hb hby d3_21) kst) ?_
    show Goes p e below s _ _ _ (s₁.setTop (mkF m 22 #[.val (.int p0), .val (.long q1), .second] [(.int (1 : Int32)), (.long q1)]))
    refine Goes.go (fun _ kst => XS.lshl X0.here hx rfl (hb hby d3_22) rfl kst) ?_
    show Goes p e below s _ _ _ (s₁.setTop (mkF m 23 #[.val (.int p0), .val (.long q1), .second] [(.long (q1 <<< ((1 : Int32) &&& 0x3f).toInt64))]))
    refine Goes.go (fun _ kst => X0.ldc2Long hx hown (mvT hZ (hw _ (List.mem_of_getElem? (i := 15) rfl))) (g := (mkF m 23 #[.val (.int p0), .val (.long q1), .second] [(.long (q1 <<< ((1 : Int32) &&& 0x3f).toInt64))])) rfl (hb hby d3_23) _ kst) ?_
    show Goes p e below s _ _ _ (s₁.setTop (mkF m 26 #[.val (.int p0), .val (.long q1), .second] [(.long (31 : Int64)), (.long (q1 <<< ((1 : Int32) &&& 0x3f).toInt64))]))
    refine Goes.go (fun _ kst => XS.land X0.here hx rfl (hb hby d3_26) rfl kst) ?_
    show Goes p e below s _ _ _ (s₁.setTop (mkF m 27 #[.val (.int p0), .val (.long q1), .second] [(.long ((q1 <<< ((1 : Int32) &&& 0x3f).toInt64) &&& (31 : Int64)))]))
    refine Goes.go (fun _ kst => XS.l2i X0.here hx rfl (hb hby d3_27) rfl kst) ?_
    show Goes p e below s _ _ _ (s₁.setTop (mkF m 28 #[.val (.int p0), .val (.long q1), .second] [(.int (((q1 <<< ((1 : Int32) &&& 0x3f).toInt64) &&& (31 : Int64)).toInt32))]))
    refine Goes.retI X0 hx hlk Bd.returns (hb hby d3_28) ?_ (by decide) (by decide)
    exact ⟨by rfl, N0, e0⟩
theorem d2_0 : decode method_3_code 0 = .ok (.iload_n 1, 1) := by decide +kernel
theorem d2_1 : decode method_3_code 1 = .ok (.aload_n 0, 1) := by decide +kernel
theorem d2_2 : decode method_3_code 2 = .ok (.arraylength, 1) := by decide +kernel
theorem d2_3 : decode method_3_code 3 = .ok (.if_icmp .ge 14, 3) := by decide +kernel
theorem d2_6 : decode method_3_code 6 = .ok (.aload_n 0, 1) := by decide +kernel
theorem d2_7 : decode method_3_code 7 = .ok (.iload_n 1, 1) := by decide +kernel
theorem d2_8 : decode method_3_code 8 = .ok (.iaload, 1) := by decide +kernel
theorem d2_9 : decode method_3_code 9 = .ok (.iload_n 1, 1) := by decide +kernel
theorem d2_10 : decode method_3_code 10 = .ok (.lload_n 2, 1) := by decide +kernel
theorem d2_11 : decode method_3_code 11 = .ok (.invokestatic 9, 3) := by decide +kernel
theorem d2_14 : decode method_3_code 14 = .ok (.if_icmp .ne 7, 3) := by decide +kernel
theorem d2_17 : decode method_3_code 17 = .ok (.iconst 1, 1) := by decide +kernel
theorem d2_18 : decode method_3_code 18 = .ok (.goto 4, 3) := by decide +kernel
theorem d2_21 : decode method_3_code 21 = .ok (.iconst 0, 1) := by decide +kernel
theorem d2_22 : decode method_3_code 22 = .ok (.ireturn, 1) := by decide +kernel
theorem pn_2 : plainName "com/example/outpoint/outpoint/Bech32ToFiveBitPinLaw" = true := by first | (simp [plainName, overriddenIn]; done) | decide +kernel
theorem ef_rm2 (m : MethodId) (x0 : Addr) (x1 : Int32) (x2 : Int64) : entryFrame m #[(.ref x0), (.int x1), (.long x2)] 4 = mkF m 0 #[.val (.ref x0), .val (.int x1), .val (.long x2), .second] [] := by first | (simp [entryFrame, mkF, argsToLocals, Value.category]; done) | rfl
def f2 (r0 : Addr) (p1 : Int32) (q2 : Int64) (n_r0 : Nat) (v_r0 : Nat → Int32) (kn : Nat) : Int32 := (if p1 < (Int32.ofNat n_r0) then (nar .boolean (if (v_r0 kn) = (f3 p1 q2) then (1 : Int32) else (0 : Int32))) else (1 : Int32))
set_option maxRecDepth 65536 in
set_option maxHeartbeats 40000000 in
theorem rm2 (l : Launch) (Z : State) (a0 : Array Value) (hw : ∀ d ∈ tables_1, d.before a0 Z = true) (ws : List Jvm.Cond) (r0 : Addr) (p1 : Int32) (q2 : Int64) (n_r0 : Nat) (v_r0 : Nat → Int32) (kn : Nat) (h0 : Heap) (n0 : Nat) (Z0 : n0 ≤ h0.size) (A_r0 : IA Z h0 r0 .int n_r0 v_r0) (hk : p1 = Int32.ofNat kn) (hkb : kn < 2 ^ 31) :
    MetFree l (⟨"com/example/outpoint/outpoint/Bech32ToFiveBitPinLaw", "at", "([IIJ)Z"⟩ : MethodName) (head1 (Jvm.Cond.code (⟨"com/example/outpoint/outpoint/Bech32ToFiveBitPinLaw", "at", "([IIJ)Z"⟩ : MethodName) method_3_code 4 (some .boolean) :: ws) ({ frames := 1, cells := 0, slots := 0, locals := 15 } : Room)) (fun a U => a = #[(.ref r0), (.int p1), (.long q2)] ∧ Z.Warmed39 U.vm ∧ U.heap = h0) (fun _ _ _ _ _ => True) (fun _ U o U' => ∃ v L, o = .returned v ∧ Qp (.int (f2 r0 p1 q2 n_r0 v_r0 kn)) h0 n0 v U'.heap L ∧ FrameEnd U o U' L ({ frames := 1, cells := 0, slots := 0, locals := 15 } : Room).cells ({ frames := 1, cells := 0, slots := 0, locals := 15 } : Room).slots) := by
  refine MetFree.of_bodySF (plainFor_of_name pn_2) hisR ?_
  intro p e s m args below meth c s₁ Bd hml0 hP hK
  obtain ⟨rfl, hZ, hh⟩ := hP
  have hx := Bd.exec
  have hby := Bd.bytes
  have hml : c.maxLocals = 4 := hml0
  have hown : s.vm.findClass "com/example/outpoint/outpoint/Bech32ToFiveBitPinLaw" = some m.cls := findClass_of_methodNamed Bd.named
  have hnm := (name_of_methodNamed Bd.named Bd.method).1
  have hlk : meth.locks = false := BodyLoose.notSynchronized Bd
  have X0 : Stand p l e ({ frames := 1, cells := 0, slots := 0, locals := 15 } : Room) s m #[(.ref r0), (.int p1), (.long q2)] below meth c s₁ [] 0 0 := Stand.of_body Bd
  have e0 : s₁.heap = h0 := by rw [← hh, Bd.state]; rfl
  have N0 := Fr.nil n0
  have K0 : Keep h0 h0 [] := Keep.refl _ _
  show Goes p e below s (Qp (.int (f2 r0 p1 q2 n_r0 v_r0 kn)) h0 n0) ({ frames := 1, cells := 0, slots := 0, locals := 15 } : Room).cells ({ frames := 1, cells := 0, slots := 0, locals := 15 } : Room).slots (s₁.setTop (entryFrame m #[(.ref r0), (.int p1), (.long q2)] 4))
  rw [ef_rm2]
  show Goes p e below s _ _ _ (s₁.setTop (mkF m 0 #[.val (.ref r0), .val (.int p1), .val (.long q2), .second] []))
  refine Goes.go (fun _ kst => XS.iloadN X0.here hx rfl (hb hby d2_0) rfl  kst) ?_
  show Goes p e below s _ _ _ (s₁.setTop (mkF m 1 #[.val (.ref r0), .val (.int p1), .val (.long q2), .second] [(.int p1)]))
  refine Goes.go (fun _ kst => XS.aloadN X0.here hx rfl (hb hby d2_1) rfl rfl  kst) ?_
  show Goes p e below s _ _ _ (s₁.setTop (mkF m 2 #[.val (.ref r0), .val (.int p1), .val (.long q2), .second] [(.ref r0), (.int p1)]))
  refine Goes.go (own_len X0 hx hZ e0 A_r0 (g := (mkF m 2 #[.val (.ref r0), .val (.int p1), .val (.long q2), .second] [(.ref r0), (.int p1)])) rfl rfl (hb hby d2_2)) ?_
  show Goes p e below s _ _ _ (s₁.setTop (mkF m 3 #[.val (.ref r0), .val (.int p1), .val (.long q2), .second] [(.int (Int32.ofNat n_r0)), (.int p1)]))
  by_cases hc3_1 : p1 < (Int32.ofNat n_r0)
  · skip
    refine Goes.qi (if_pos hc3_1) ?_
    refine Goes.go (fun _ kst => XS.icmpNo X0.here hx rfl (hb hby d2_3) rfl (tlt hc3_1).2.1 kst) ?_
    show Goes p e below s _ _ _ (s₁.setTop (mkF m 6 #[.val (.ref r0), .val (.int p1), .val (.long q2), .second] []))
    refine Goes.go (fun _ kst => XS.aloadN X0.here hx rfl (hb hby d2_6) rfl rfl  kst) ?_
    show Goes p e below s _ _ _ (s₁.setTop (mkF m 7 #[.val (.ref r0), .val (.int p1), .val (.long q2), .second] [(.ref r0)]))
    refine Goes.go (fun _ kst => XS.iloadN X0.here hx rfl (hb hby d2_7) rfl  kst) ?_
    show Goes p e below s _ _ _ (s₁.setTop (mkF m 8 #[.val (.ref r0), .val (.int p1), .val (.long q2), .second] [(.int p1), (.ref r0)]))
    refine Goes.go (own_ldI X0 hx hZ e0 A_r0 (i := kn) hk (by rw [hk] at hc3_1; exact (own_lt hkb A_r0.bound).mp hc3_1) (g := (mkF m 8 #[.val (.ref r0), .val (.int p1), .val (.long q2), .second] [(.int p1), (.ref r0)])) rfl rfl (hb hby d2_8)) ?_
    show Goes p e below s _ _ _ (s₁.setTop (mkF m 9 #[.val (.ref r0), .val (.int p1), .val (.long q2), .second] [(.int (v_r0 kn))]))
    refine Goes.go (fun _ kst => XS.iloadN X0.here hx rfl (hb hby d2_9) rfl  kst) ?_
    show Goes p e below s _ _ _ (s₁.setTop (mkF m 10 #[.val (.ref r0), .val (.int p1), .val (.long q2), .second] [(.int p1), (.int (v_r0 kn))]))
    refine Goes.go (fun _ kst => XS.lloadN X0.here hx rfl (hb hby d2_10) rfl  kst) ?_
    show Goes p e below s _ _ _ (s₁.setTop (mkF m 11 #[.val (.ref r0), .val (.int p1), .val (.long q2), .second] [(.long q2), (.int p1), (.int (v_r0 kn))]))
    obtain ⟨_, _, ⟨T2, L2, k2, n2⟩, -, X2, ⟨Lc2, hQ2, l2, y2, z2⟩, st2⟩ := Jvm.LawKit.callS X0 hx (y := (⟨"com/example/outpoint/outpoint/Bech32ToFiveBitPinLaw", "expected", "(IJ)I"⟩ : MethodName)) hown (mvT hZ (hw _ (List.mem_of_getElem? (i := 12) rfl))) (mvT hZ (hw _ (List.mem_of_getElem? (i := 13) rfl))) (mvT hZ (hw _ (List.mem_of_getElem? (i := 9) rfl))) (mvT hZ (hw _ (List.mem_of_getElem? (i := 14) rfl))) (by decide) (backOf (W := 1) (rm3 l Z a0 hw [] p1 q2 h0 n0 Z0 ) hZ (hw _ (List.mem_of_getElem? (i := 14) rfl)) (hw _ (List.mem_of_getElem? (i := 9) rfl)) (by decide) (by decide)) (g := (mkF m 11 #[.val (.ref r0), .val (.int p1), .val (.long q2), .second] [(.long q2), (.int p1), (.int (v_r0 kn))])) rfl (by rw [hml]; rfl) (argsL := [(.int p1), (.long q2)]) (rest := [(.int (v_r0 kn))]) (lenOf pd_0 rfl) rfl (by show 2 * 0 + _ ≤ _; exact Nat.le_of_eq rfl) (hb hby d2_11) (fun _ _ => ⟨rfl, e0, (by decide : 0 + 0 ≤ _), (by decide : 0 + 0 ≤ _)⟩)
    dsimp only [Pt.U, Pt.locs, Pt.cells, Pt.slots] at X2 l2 y2 z2 st2 hQ2
    subst l2 y2 z2
    obtain ⟨rfl, N2q, e2⟩ := hQ2
    have N2 := Fr.app N0 N2q
    refine Goes.go st2 ?_
    show Goes p e below s _ _ _ (T2.setTop (mkF m 14 #[.val (.ref r0), .val (.int p1), .val (.long q2), .second] [(.int (f3 p1 q2)), (.int (v_r0 kn))]))
    have sm3 : ∀ t, Steps p.tables e below (T2.setTop (mkF m 22 #[.val (.ref r0), .val (.int p1), .val (.long q2), .second] [(.int (if (v_r0 kn) = (f3 p1 q2) then (1 : Int32) else (0 : Int32)))])) t → Steps p.tables e below (T2.setTop (mkF m 14 #[.val (.ref r0), .val (.int p1), .val (.long q2), .second] [(.int (f3 p1 q2)), (.int (v_r0 kn))])) t := by
      intro t kst
      by_cases hc14_3 : (v_r0 kn) = (f3 p1 q2)
      · have kst2 : Steps p.tables e below (T2.setTop (mkF m 22 #[.val (.ref r0), .val (.int p1), .val (.long q2), .second] [(.int (1 : Int32))])) t := by simpa only [if_pos hc14_3] using kst
        show Steps p.tables e below (T2.setTop (mkF m 14 #[.val (.ref r0), .val (.int p1), .val (.long q2), .second] [(.int (f3 p1 q2)), (.int (v_r0 kn))])) _
        refine XS.icmpNo X2.here hx rfl (hb hby d2_14) rfl (teq hc14_3).2 ?_
        show Steps p.tables e below (T2.setTop (mkF m 17 #[.val (.ref r0), .val (.int p1), .val (.long q2), .second] [])) _
        refine XS.iconst X2.here hx rfl (hb hby d2_17) ?_
        show Steps p.tables e below (T2.setTop (mkF m 18 #[.val (.ref r0), .val (.int p1), .val (.long q2), .second] [(.int (1 : Int32))])) _
        refine XS.goto X2.here hx rfl (pc0 := 18) (pc' := 22) rfl (hb hby d2_18) (by decide) (by decide) ?_
        exact kst2
      · have kst2 : Steps p.tables e below (T2.setTop (mkF m 22 #[.val (.ref r0), .val (.int p1), .val (.long q2), .second] [(.int (0 : Int32))])) t := by simpa only [if_neg hc14_3] using kst
        show Steps p.tables e below (T2.setTop (mkF m 14 #[.val (.ref r0), .val (.int p1), .val (.long q2), .second] [(.int (f3 p1 q2)), (.int (v_r0 kn))])) _
        refine XS.icmpYes X2.here hx rfl (pc0 := 14) (pc' := 21) rfl (hb hby d2_14) rfl (feq hc14_3).2 (by decide) (by decide) ?_
        show Steps p.tables e below (T2.setTop (mkF m 21 #[.val (.ref r0), .val (.int p1), .val (.long q2), .second] [])) _
        refine XS.iconst X2.here hx rfl (hb hby d2_21) ?_
        exact kst2
    refine Goes.go sm3 ?_
    show Goes p e below s _ _ _ (T2.setTop (mkF m 22 #[.val (.ref r0), .val (.int p1), .val (.long q2), .second] [(.int (if (v_r0 kn) = (f3 p1 q2) then (1 : Int32) else (0 : Int32)))]))
    refine Goes.retN .boolean X2 hx hlk Bd.returns (by simp) (hb hby d2_22) ?_ (by decide) (by decide)
    exact ⟨by rfl, N2, e2⟩
  · skip
    refine Goes.qi (if_neg hc3_1) ?_
    refine Goes.go (fun _ kst => XS.icmpYes X0.here hx rfl (pc0 := 3) (pc' := 17) rfl (hb hby d2_3) rfl (flt hc3_1).2.1 (by decide) (by decide) kst) ?_
    show Goes p e below s _ _ _ (s₁.setTop (mkF m 17 #[.val (.ref r0), .val (.int p1), .val (.long q2), .second] []))
    refine Goes.go (fun _ kst => XS.iconst X0.here hx rfl (hb hby d2_17) kst) ?_
    show Goes p e below s _ _ _ (s₁.setTop (mkF m 18 #[.val (.ref r0), .val (.int p1), .val (.long q2), .second] [(.int (1 : Int32))]))
    refine Goes.go (fun _ kst => XS.goto X0.here hx rfl (pc0 := 18) (pc' := 22) rfl (hb hby d2_18) (by decide) (by decide) kst) ?_
    show Goes p e below s _ _ _ (s₁.setTop (mkF m 22 #[.val (.ref r0), .val (.int p1), .val (.long q2), .second] [(.int (1 : Int32))]))
    refine Goes.retN .boolean X0 hx hlk Bd.returns (by simp) (hb hby d2_22) ?_ (by decide) (by decide)
    exact ⟨by rfl, N0, e0⟩
def own_by (q1 : Int64) (i : Nat) : Int32 := (if i = 0 then (nar .byte (((((q1.toUInt64 >>> ((56 : Int32) &&& 0x3f).toInt64.toUInt64).toInt64).toInt32)).toInt8.toInt32)) else (if i = 1 then (nar .byte (((((q1.toUInt64 >>> ((48 : Int32) &&& 0x3f).toInt64.toUInt64).toInt64).toInt32)).toInt8.toInt32)) else (if i = 2 then (nar .byte (((((q1.toUInt64 >>> ((40 : Int32) &&& 0x3f).toInt64.toUInt64).toInt64).toInt32)).toInt8.toInt32)) else (if i = 3 then (nar .byte (((((q1.toUInt64 >>> ((32 : Int32) &&& 0x3f).toInt64.toUInt64).toInt64).toInt32)).toInt8.toInt32)) else (if i = 4 then (nar .byte (((((q1.toUInt64 >>> ((24 : Int32) &&& 0x3f).toInt64.toUInt64).toInt64).toInt32)).toInt8.toInt32)) else (if i = 5 then (nar .byte (((((q1.toUInt64 >>> ((16 : Int32) &&& 0x3f).toInt64.toUInt64).toInt64).toInt32)).toInt8.toInt32)) else (if i = 6 then (nar .byte (((((q1.toUInt64 >>> ((8 : Int32) &&& 0x3f).toInt64.toUInt64).toInt64).toInt32)).toInt8.toInt32)) else (nar .byte ((q1.toInt32).toInt8.toInt32)))))))))
def own_P (q1 : Int64) (j : Nat) : Nat → Int32 := fun i => if i < j then own_by q1 i else 0
theorem own_by0 (q1 : Int64) : own_by q1 0 = (nar .byte (((((q1.toUInt64 >>> ((56 : Int32) &&& 0x3f).toInt64.toUInt64).toInt64).toInt32)).toInt8.toInt32)) := rfl
theorem own_by1 (q1 : Int64) : own_by q1 1 = (nar .byte (((((q1.toUInt64 >>> ((48 : Int32) &&& 0x3f).toInt64.toUInt64).toInt64).toInt32)).toInt8.toInt32)) := rfl
theorem own_by2 (q1 : Int64) : own_by q1 2 = (nar .byte (((((q1.toUInt64 >>> ((40 : Int32) &&& 0x3f).toInt64.toUInt64).toInt64).toInt32)).toInt8.toInt32)) := rfl
theorem own_by3 (q1 : Int64) : own_by q1 3 = (nar .byte (((((q1.toUInt64 >>> ((32 : Int32) &&& 0x3f).toInt64.toUInt64).toInt64).toInt32)).toInt8.toInt32)) := rfl
theorem own_by4 (q1 : Int64) : own_by q1 4 = (nar .byte (((((q1.toUInt64 >>> ((24 : Int32) &&& 0x3f).toInt64.toUInt64).toInt64).toInt32)).toInt8.toInt32)) := rfl
theorem own_by5 (q1 : Int64) : own_by q1 5 = (nar .byte (((((q1.toUInt64 >>> ((16 : Int32) &&& 0x3f).toInt64.toUInt64).toInt64).toInt32)).toInt8.toInt32)) := rfl
theorem own_by6 (q1 : Int64) : own_by q1 6 = (nar .byte (((((q1.toUInt64 >>> ((8 : Int32) &&& 0x3f).toInt64.toUInt64).toInt64).toInt32)).toInt8.toInt32)) := rfl
theorem own_by7 (q1 : Int64) : own_by q1 7 = (nar .byte ((q1.toInt32).toInt8.toInt32)) := rfl
theorem own_Pst {q1 : Int64} {j : Nat} {x : Int32} (h : own_by q1 j = x) (i : Nat) : own_upd (own_P q1 j) j x i = own_P q1 (j + 1) i := by
  by_cases q : i = j
  · subst q
    rw [own_us]
    unfold own_P
    rw [if_pos (by omega), h]
  · rw [own_un q]
    unfold own_P
    by_cases h2 : i < j
    · rw [if_pos h2, if_pos (by omega)]
    · rw [if_neg h2, if_neg (by omega)]
theorem own_Psk {q1 : Int64} {j n i : Nat} (h : n ≤ j) (hi : i < n) : own_P q1 j i = own_P q1 (j + 1) i := by
  unfold own_P
  rw [if_pos (by omega), if_pos (by omega)]
theorem own_byub (q1 : Int64) (i : Nat) (hi : i < 8) : own_ub (own_by q1 i) = q1.toBitVec.toNat / 2 ^ (56 - 8 * i) % 256 := by
  have h8 : i = 0 ∨ i = 1 ∨ i = 2 ∨ i = 3 ∨ i = 4 ∨ i = 5 ∨ i = 6 ∨ i = 7 := by omega
  rcases h8 with rfl | rfl | rfl | rfl | rfl | rfl | rfl | rfl
  · rw [own_by0, own_ubz, own_ushr q1 (k := 56) (by decide) (by decide)]
  · rw [own_by1, own_ubz, own_ushr q1 (k := 48) (by decide) (by decide)]
  · rw [own_by2, own_ubz, own_ushr q1 (k := 40) (by decide) (by decide)]
  · rw [own_by3, own_ubz, own_ushr q1 (k := 32) (by decide) (by decide)]
  · rw [own_by4, own_ubz, own_ushr q1 (k := 24) (by decide) (by decide)]
  · rw [own_by5, own_ubz, own_ushr q1 (k := 16) (by decide) (by decide)]
  · rw [own_by6, own_ubz, own_ushr q1 (k := 8) (by decide) (by decide)]
  · rw [own_by7, own_ubz]; simp
theorem own_Y (q1 : Int64) {n : Nat} (hn : n ≤ 8) : (if (0 : Int32) < (Int32.ofNat n) then (q1 &&& ((-1 : Int64) <<< (((64 : Int32) - ((8 : Int32) * (Int32.ofNat n))) &&& 0x3f).toInt64)) else (0 : Int64)).toBitVec.toNat = own_B (own_P q1 8) n * 2 ^ (64 - 8 * n) := by
  have hB : own_B (own_P q1 8) n = q1.toBitVec.toNat / 2 ^ (64 - 8 * n) := own_BL q1.toBitVec.isLt n hn (fun i hi => by
    have e : own_P q1 8 i = own_by q1 i := if_pos (by omega)
    rw [e]; exact own_byub q1 i (by omega))
  rw [hB]
  have h9 : n = 0 ∨ n = 1 ∨ n = 2 ∨ n = 3 ∨ n = 4 ∨ n = 5 ∨ n = 6 ∨ n = 7 ∨ n = 8 := by omega
  rcases h9 with rfl | rfl | rfl | rfl | rfl | rfl | rfl | rfl | rfl
  · rw [if_neg (by decide)]; show 0 = _; rw [Nat.div_eq_of_lt q1.toBitVec.isLt, Nat.zero_mul]
  · rw [if_pos (by decide)]; exact own_msk q1 ((-1 : Int64) <<< (((64 : Int32) - ((8 : Int32) * (Int32.ofNat 1))) &&& 0x3f).toInt64) (s := 56) (by decide) (by decide)
  · rw [if_pos (by decide)]; exact own_msk q1 ((-1 : Int64) <<< (((64 : Int32) - ((8 : Int32) * (Int32.ofNat 2))) &&& 0x3f).toInt64) (s := 48) (by decide) (by decide)
  · rw [if_pos (by decide)]; exact own_msk q1 ((-1 : Int64) <<< (((64 : Int32) - ((8 : Int32) * (Int32.ofNat 3))) &&& 0x3f).toInt64) (s := 40) (by decide) (by decide)
  · rw [if_pos (by decide)]; exact own_msk q1 ((-1 : Int64) <<< (((64 : Int32) - ((8 : Int32) * (Int32.ofNat 4))) &&& 0x3f).toInt64) (s := 32) (by decide) (by decide)
  · rw [if_pos (by decide)]; exact own_msk q1 ((-1 : Int64) <<< (((64 : Int32) - ((8 : Int32) * (Int32.ofNat 5))) &&& 0x3f).toInt64) (s := 24) (by decide) (by decide)
  · rw [if_pos (by decide)]; exact own_msk q1 ((-1 : Int64) <<< (((64 : Int32) - ((8 : Int32) * (Int32.ofNat 6))) &&& 0x3f).toInt64) (s := 16) (by decide) (by decide)
  · rw [if_pos (by decide)]; exact own_msk q1 ((-1 : Int64) <<< (((64 : Int32) - ((8 : Int32) * (Int32.ofNat 7))) &&& 0x3f).toInt64) (s := 8) (by decide) (by decide)
  · rw [if_pos (by decide)]; exact own_msk q1 ((-1 : Int64) <<< (((64 : Int32) - ((8 : Int32) * (Int32.ofNat 8))) &&& 0x3f).toInt64) (s := 0) (by decide) (by decide)
theorem own_shl1 (y : Int64) : (y <<< ((1 : Int32) &&& 0x3f).toInt64).toBitVec.toNat = y.toBitVec.toNat * 2 % 2 ^ 64 := by
  have e : (y <<< ((1 : Int32) &&& 0x3f).toInt64).toBitVec = y.toBitVec <<< (((1 : Int32) &&& 0x3f).toInt64.toBitVec.smod 64) := rfl
  rw [e, show (((1 : Int32) &&& 0x3f).toInt64.toBitVec.smod 64) = 1#64 from by decide, BitVec.shiftLeft_eq', BitVec.toNat_shiftLeft, Nat.shiftLeft_eq]
  rfl
theorem own_e0 (y : Int64) : f3 (0 : Int32) y = Int32.ofNat (y.toBitVec.toNat / 2 ^ (59 - 5 * 0) % 32) := by
  unfold f3
  rw [if_pos (by decide), own_m31, own_ushr y (k := 59) (by decide) (by decide)]
theorem own_e1 (y : Int64) : f3 (1 : Int32) y = Int32.ofNat (y.toBitVec.toNat / 2 ^ (59 - 5 * 1) % 32) := by
  unfold f3
  rw [if_pos (by decide), own_m31, own_ushr y (k := 54) (by decide) (by decide)]
theorem own_e2 (y : Int64) : f3 (2 : Int32) y = Int32.ofNat (y.toBitVec.toNat / 2 ^ (59 - 5 * 2) % 32) := by
  unfold f3
  rw [if_pos (by decide), own_m31, own_ushr y (k := 49) (by decide) (by decide)]
theorem own_e3 (y : Int64) : f3 (3 : Int32) y = Int32.ofNat (y.toBitVec.toNat / 2 ^ (59 - 5 * 3) % 32) := by
  unfold f3
  rw [if_pos (by decide), own_m31, own_ushr y (k := 44) (by decide) (by decide)]
theorem own_e4 (y : Int64) : f3 (4 : Int32) y = Int32.ofNat (y.toBitVec.toNat / 2 ^ (59 - 5 * 4) % 32) := by
  unfold f3
  rw [if_pos (by decide), own_m31, own_ushr y (k := 39) (by decide) (by decide)]
theorem own_e5 (y : Int64) : f3 (5 : Int32) y = Int32.ofNat (y.toBitVec.toNat / 2 ^ (59 - 5 * 5) % 32) := by
  unfold f3
  rw [if_pos (by decide), own_m31, own_ushr y (k := 34) (by decide) (by decide)]
theorem own_e6 (y : Int64) : f3 (6 : Int32) y = Int32.ofNat (y.toBitVec.toNat / 2 ^ (59 - 5 * 6) % 32) := by
  unfold f3
  rw [if_pos (by decide), own_m31, own_ushr y (k := 29) (by decide) (by decide)]
theorem own_e7 (y : Int64) : f3 (7 : Int32) y = Int32.ofNat (y.toBitVec.toNat / 2 ^ (59 - 5 * 7) % 32) := by
  unfold f3
  rw [if_pos (by decide), own_m31, own_ushr y (k := 24) (by decide) (by decide)]
theorem own_e8 (y : Int64) : f3 (8 : Int32) y = Int32.ofNat (y.toBitVec.toNat / 2 ^ (59 - 5 * 8) % 32) := by
  unfold f3
  rw [if_pos (by decide), own_m31, own_ushr y (k := 19) (by decide) (by decide)]
theorem own_e9 (y : Int64) : f3 (9 : Int32) y = Int32.ofNat (y.toBitVec.toNat / 2 ^ (59 - 5 * 9) % 32) := by
  unfold f3
  rw [if_pos (by decide), own_m31, own_ushr y (k := 14) (by decide) (by decide)]
theorem own_e10 (y : Int64) : f3 (10 : Int32) y = Int32.ofNat (y.toBitVec.toNat / 2 ^ (59 - 5 * 10) % 32) := by
  unfold f3
  rw [if_pos (by decide), own_m31, own_ushr y (k := 9) (by decide) (by decide)]
theorem own_e11 (y : Int64) : f3 (11 : Int32) y = Int32.ofNat (y.toBitVec.toNat / 2 ^ (59 - 5 * 11) % 32) := by
  unfold f3
  rw [if_pos (by decide), own_m31, own_ushr y (k := 4) (by decide) (by decide)]
theorem own_e12 (y : Int64) : f3 (12 : Int32) y = Int32.ofNat (y.toBitVec.toNat * 2 % 2 ^ 64 % 32) := by
  unfold f3
  rw [if_neg (by decide), own_m31]
  congr 2
  exact own_shl1 y
theorem own_ok {r : Addr} {p : Int32} {y : Int64} {N : Nat} {R : Nat → Int32} {k : Nat} (h : p < Int32.ofNat N → R k = f3 p y) : ¬ (f2 r p y N R k = (0 : Int32)) := by
  unfold f2
  by_cases q : p < Int32.ofNat N
  · simp only [if_pos q, h q]
    decide
  · simp only [if_neg q]
    decide
theorem own_at0 {r : Addr} {y : Int64} {v : Nat → Int32} {n : Nat} (hn : n ≤ 8) (hy : y.toBitVec.toNat = own_B v n * 2 ^ (64 - 8 * n)) : ¬ (f2 r (0 : Int32) y ((8 * n + 4) / 5) (own_R v n) 0 = (0 : Int32)) := by
  refine own_ok (fun q => ?_)
  have hk : 0 < (8 * n + 4) / 5 := (own_lt (i := 0) (by decide) (by omega)).mp q
  rw [own_e0]
  exact own_RY hn hy hk (by decide)
theorem own_at1 {r : Addr} {y : Int64} {v : Nat → Int32} {n : Nat} (hn : n ≤ 8) (hy : y.toBitVec.toNat = own_B v n * 2 ^ (64 - 8 * n)) : ¬ (f2 r (1 : Int32) y ((8 * n + 4) / 5) (own_R v n) 1 = (0 : Int32)) := by
  refine own_ok (fun q => ?_)
  have hk : 1 < (8 * n + 4) / 5 := (own_lt (i := 1) (by decide) (by omega)).mp q
  rw [own_e1]
  exact own_RY hn hy hk (by decide)
theorem own_at2 {r : Addr} {y : Int64} {v : Nat → Int32} {n : Nat} (hn : n ≤ 8) (hy : y.toBitVec.toNat = own_B v n * 2 ^ (64 - 8 * n)) : ¬ (f2 r (2 : Int32) y ((8 * n + 4) / 5) (own_R v n) 2 = (0 : Int32)) := by
  refine own_ok (fun q => ?_)
  have hk : 2 < (8 * n + 4) / 5 := (own_lt (i := 2) (by decide) (by omega)).mp q
  rw [own_e2]
  exact own_RY hn hy hk (by decide)
theorem own_at3 {r : Addr} {y : Int64} {v : Nat → Int32} {n : Nat} (hn : n ≤ 8) (hy : y.toBitVec.toNat = own_B v n * 2 ^ (64 - 8 * n)) : ¬ (f2 r (3 : Int32) y ((8 * n + 4) / 5) (own_R v n) 3 = (0 : Int32)) := by
  refine own_ok (fun q => ?_)
  have hk : 3 < (8 * n + 4) / 5 := (own_lt (i := 3) (by decide) (by omega)).mp q
  rw [own_e3]
  exact own_RY hn hy hk (by decide)
theorem own_at4 {r : Addr} {y : Int64} {v : Nat → Int32} {n : Nat} (hn : n ≤ 8) (hy : y.toBitVec.toNat = own_B v n * 2 ^ (64 - 8 * n)) : ¬ (f2 r (4 : Int32) y ((8 * n + 4) / 5) (own_R v n) 4 = (0 : Int32)) := by
  refine own_ok (fun q => ?_)
  have hk : 4 < (8 * n + 4) / 5 := (own_lt (i := 4) (by decide) (by omega)).mp q
  rw [own_e4]
  exact own_RY hn hy hk (by decide)
theorem own_at5 {r : Addr} {y : Int64} {v : Nat → Int32} {n : Nat} (hn : n ≤ 8) (hy : y.toBitVec.toNat = own_B v n * 2 ^ (64 - 8 * n)) : ¬ (f2 r (5 : Int32) y ((8 * n + 4) / 5) (own_R v n) 5 = (0 : Int32)) := by
  refine own_ok (fun q => ?_)
  have hk : 5 < (8 * n + 4) / 5 := (own_lt (i := 5) (by decide) (by omega)).mp q
  rw [own_e5]
  exact own_RY hn hy hk (by decide)
theorem own_at6 {r : Addr} {y : Int64} {v : Nat → Int32} {n : Nat} (hn : n ≤ 8) (hy : y.toBitVec.toNat = own_B v n * 2 ^ (64 - 8 * n)) : ¬ (f2 r (6 : Int32) y ((8 * n + 4) / 5) (own_R v n) 6 = (0 : Int32)) := by
  refine own_ok (fun q => ?_)
  have hk : 6 < (8 * n + 4) / 5 := (own_lt (i := 6) (by decide) (by omega)).mp q
  rw [own_e6]
  exact own_RY hn hy hk (by decide)
theorem own_at7 {r : Addr} {y : Int64} {v : Nat → Int32} {n : Nat} (hn : n ≤ 8) (hy : y.toBitVec.toNat = own_B v n * 2 ^ (64 - 8 * n)) : ¬ (f2 r (7 : Int32) y ((8 * n + 4) / 5) (own_R v n) 7 = (0 : Int32)) := by
  refine own_ok (fun q => ?_)
  have hk : 7 < (8 * n + 4) / 5 := (own_lt (i := 7) (by decide) (by omega)).mp q
  rw [own_e7]
  exact own_RY hn hy hk (by decide)
theorem own_at8 {r : Addr} {y : Int64} {v : Nat → Int32} {n : Nat} (hn : n ≤ 8) (hy : y.toBitVec.toNat = own_B v n * 2 ^ (64 - 8 * n)) : ¬ (f2 r (8 : Int32) y ((8 * n + 4) / 5) (own_R v n) 8 = (0 : Int32)) := by
  refine own_ok (fun q => ?_)
  have hk : 8 < (8 * n + 4) / 5 := (own_lt (i := 8) (by decide) (by omega)).mp q
  rw [own_e8]
  exact own_RY hn hy hk (by decide)
theorem own_at9 {r : Addr} {y : Int64} {v : Nat → Int32} {n : Nat} (hn : n ≤ 8) (hy : y.toBitVec.toNat = own_B v n * 2 ^ (64 - 8 * n)) : ¬ (f2 r (9 : Int32) y ((8 * n + 4) / 5) (own_R v n) 9 = (0 : Int32)) := by
  refine own_ok (fun q => ?_)
  have hk : 9 < (8 * n + 4) / 5 := (own_lt (i := 9) (by decide) (by omega)).mp q
  rw [own_e9]
  exact own_RY hn hy hk (by decide)
theorem own_at10 {r : Addr} {y : Int64} {v : Nat → Int32} {n : Nat} (hn : n ≤ 8) (hy : y.toBitVec.toNat = own_B v n * 2 ^ (64 - 8 * n)) : ¬ (f2 r (10 : Int32) y ((8 * n + 4) / 5) (own_R v n) 10 = (0 : Int32)) := by
  refine own_ok (fun q => ?_)
  have hk : 10 < (8 * n + 4) / 5 := (own_lt (i := 10) (by decide) (by omega)).mp q
  rw [own_e10]
  exact own_RY hn hy hk (by decide)
theorem own_at11 {r : Addr} {y : Int64} {v : Nat → Int32} {n : Nat} (hn : n ≤ 8) (hy : y.toBitVec.toNat = own_B v n * 2 ^ (64 - 8 * n)) : ¬ (f2 r (11 : Int32) y ((8 * n + 4) / 5) (own_R v n) 11 = (0 : Int32)) := by
  refine own_ok (fun q => ?_)
  have hk : 11 < (8 * n + 4) / 5 := (own_lt (i := 11) (by decide) (by omega)).mp q
  rw [own_e11]
  exact own_RY hn hy hk (by decide)
theorem own_at12 {r : Addr} {y : Int64} {v : Nat → Int32} {n : Nat} (hn : n ≤ 8) (hy : y.toBitVec.toNat = own_B v n * 2 ^ (64 - 8 * n)) : ¬ (f2 r (12 : Int32) y ((8 * n + 4) / 5) (own_R v n) 12 = (0 : Int32)) := by
  refine own_ok (fun q => ?_)
  have hk : 12 < (8 * n + 4) / 5 := (own_lt (i := 12) (by decide) (by omega)).mp q
  rw [own_e12]
  exact own_RY12 hn hy hk
theorem pn_0 : plainName "com/example/outpoint/outpoint/Bech32ToFiveBitPinLaw" = true := by first | (simp [plainName, overriddenIn]; done) | decide +kernel
theorem ef_rm0 (m : MethodId) (x0 : Int32) (x1 : Int64) : entryFrame m #[(.int x0), (.long x1)] maxLocals = mkF m 0 #[.val (.int x0), .val (.long x1), .second, .unset, .unset, .unset, .unset, .unset, .unset] [] := by first | (simp [entryFrame, mkF, argsToLocals, Value.category, maxLocals]; done) | rfl
def Q0 (n0 : Nat) (v : Option Value) (h : Heap) (L : List Loc) : Prop := v = some (.int 1) ∧ Fr n0 L
set_option maxRecDepth 65536 in
set_option maxHeartbeats 40000000 in
theorem rm0 (l : Launch) (Z : State) (a0 : Array Value) (hw : ∀ d ∈ tables_1, d.before a0 Z = true) (ws : List Jvm.Cond) (p0 : Int32) (q1 : Int64) (h0 : Heap) (n0 : Nat) (Z0 : n0 ≤ h0.size) :
    MetFree l x (head1 (Jvm.Cond.code x code maxLocals ret :: ws) room_1) (fun a U => a = #[(.int p0), (.long q1)] ∧ Z.Warmed39 U.vm ∧ U.heap = h0) (fun _ _ _ _ _ => True) (fun _ U o U' => ∃ v L, o = .returned v ∧ Q0 n0 v U'.heap L ∧ FrameEnd U o U' L room_1.cells room_1.slots) := by
  refine MetFree.of_bodySF (plainFor_of_name pn_0) hisR ?_
  intro p e s m args below meth c s₁ Bd hml0 hP hK
  obtain ⟨rfl, hZ, hh⟩ := hP
  have hx := Bd.exec
  have hby := Bd.bytes
  have hml : c.maxLocals = 9 := hml0
  have hown : s.vm.findClass "com/example/outpoint/outpoint/Bech32ToFiveBitPinLaw" = some m.cls := findClass_of_methodNamed Bd.named
  have hnm := (name_of_methodNamed Bd.named Bd.method).1
  have hlk : meth.locks = false := BodyLoose.notSynchronized Bd
  have X0 : Stand p l e room_1 s m #[(.int p0), (.long q1)] below meth c s₁ [] 0 0 := Stand.of_body Bd
  have e0 : s₁.heap = h0 := by rw [← hh, Bd.state]; rfl
  have N0 := Fr.nil n0
  have K0 : Keep h0 h0 [] := Keep.refl _ _
  show Goes p e below s (Q0 n0) room_1.cells room_1.slots (s₁.setTop (entryFrame m #[(.int p0), (.long q1)] maxLocals))
  rw [ef_rm0]
  show Goes p e below s _ _ _ (s₁.setTop (mkF m 0 #[.val (.int p0), .val (.long q1), .second, .unset, .unset, .unset, .unset, .unset, .unset] []))
  refine Goes.go (fun _ kst => XS.iloadN X0.here hx rfl (hb hby at_0) rfl  kst) ?_
  show Goes p e below s _ _ _ (s₁.setTop (mkF m 1 #[.val (.int p0), .val (.long q1), .second, .unset, .unset, .unset, .unset, .unset, .unset] [(.int p0)]))
  refine Goes.go (fun _ kst => X0.ldcInt hx hown (mvT hZ (hw _ (List.mem_of_getElem? (i := 0) rfl))) (g := (mkF m 1 #[.val (.int p0), .val (.long q1), .second, .unset, .unset, .unset, .unset, .unset, .unset] [(.int p0)])) rfl (hb hby at_1) _ kst) ?_
  show Goes p e below s _ _ _ (s₁.setTop (mkF m 3 #[.val (.int p0), .val (.long q1), .second, .unset, .unset, .unset, .unset, .unset, .unset] [(.int (2147483647 : Int32)), (.int p0)]))
  refine Goes.go (fun _ kst => XS.iand X0.here hx rfl (hb hby at_3) rfl kst) ?_
  show Goes p e below s _ _ _ (s₁.setTop (mkF m 4 #[.val (.int p0), .val (.long q1), .second, .unset, .unset, .unset, .unset, .unset, .unset] [(.int (p0 &&& (2147483647 : Int32)))]))
  refine Goes.go (fun _ kst => XS.bipush X0.here hx rfl (hb hby at_4) kst) ?_
  show Goes p e below s _ _ _ (s₁.setTop (mkF m 6 #[.val (.int p0), .val (.long q1), .second, .unset, .unset, .unset, .unset, .unset, .unset] [(.int (9 : Int32)), (.int (p0 &&& (2147483647 : Int32)))]))
  refine Goes.go (fun _ kst => own_irem X0.here hx rfl (hb hby at_6) rfl (by decide) kst) ?_
  show Goes p e below s _ _ _ (s₁.setTop (mkF m 7 #[.val (.int p0), .val (.long q1), .second, .unset, .unset, .unset, .unset, .unset, .unset] [(.int ((p0 &&& (2147483647 : Int32)) % (9 : Int32)))]))
  refine Goes.go (fun _ kst => XS.istoreN X0.here hx rfl (hb hby at_7) rfl (l' := #[.val (.int p0), .val (.long q1), .second, .val (.int ((p0 &&& (2147483647 : Int32)) % (9 : Int32))), .unset, .unset, .unset, .unset, .unset]) rfl kst) ?_
  obtain ⟨n, hn9, en⟩ := own_modN p0 9 (by decide) (by decide)
  have hn8 : n ≤ 8 := by omega
  rw [show ((p0 &&& (2147483647 : Int32)) % (9 : Int32)) = Int32.ofNat n from en]
  show Goes p e below s _ _ _ (s₁.setTop (mkF m 8 #[.val (.int p0), .val (.long q1), .second, .val (.int (Int32.ofNat n)), .unset, .unset, .unset, .unset, .unset] []))
  refine Goes.go (fun _ kst => XS.bipush X0.here hx rfl (hb hby at_8) kst) ?_
  show Goes p e below s _ _ _ (s₁.setTop (mkF m 10 #[.val (.int p0), .val (.long q1), .second, .val (.int (Int32.ofNat n)), .unset, .unset, .unset, .unset, .unset] [(.int (9 : Int32))]))
  obtain ⟨T1, h1, X1, e1, E1, A1, EA1, st1⟩ := own_newA X0 hx hZ (hw _ (List.mem_of_getElem? (i := 1) rfl)) e0 (g := (mkF m 10 #[.val (.int p0), .val (.long q1), .second, .val (.int (Int32.ofNat n)), .unset, .unset, .unset, .unset, .unset] [(.int (9 : Int32))])) rfl (hb hby at_10) rfl (n := 9) rfl (cap := 9) (Nat.le_refl _) (by decide) (by decide) (by decide) (by decide) (by decide) (by decide : _ = "[I")
  obtain ⟨b1, g1⟩ : ∃ z, z = h0.size := ⟨_, rfl⟩
  rw [← g1] at A1 EA1 st1
  have gb1 : n0 ≤ b1 := Nat.le_trans Z0 (Nat.le_of_eq g1.symm)
  have sb1 : h0.size ≤ b1 := Nat.le_trans K0.1 (Nat.le_of_eq g1.symm)
  have Z1 := Nat.le_trans Z0 E1.1
  have K1 := Keep.ext K0 E1
  refine Goes.go st1 ?_
  show Goes p e below s _ _ _ (T1.setTop (mkF m 12 #[.val (.int p0), .val (.long q1), .second, .val (.int (Int32.ofNat n)), .unset, .unset, .unset, .unset, .unset] [(.ref b1)]))
  refine Goes.go (fun _ kst => XS.dup X1.here hx rfl (hb hby at_12) rfl rfl kst) ?_
  show Goes p e below s _ _ _ (T1.setTop (mkF m 13 #[.val (.int p0), .val (.long q1), .second, .val (.int (Int32.ofNat n)), .unset, .unset, .unset, .unset, .unset] [(.ref b1), (.ref b1)]))
  refine Goes.go (fun _ kst => XS.iconst X1.here hx rfl (hb hby at_13) kst) ?_
  show Goes p e below s _ _ _ (T1.setTop (mkF m 14 #[.val (.int p0), .val (.long q1), .second, .val (.int (Int32.ofNat n)), .unset, .unset, .unset, .unset, .unset] [(.int (0 : Int32)), (.ref b1), (.ref b1)]))
  refine Goes.go (fun _ kst => XS.iconst X1.here hx rfl (hb hby at_14) kst) ?_
  show Goes p e below s _ _ _ (T1.setTop (mkF m 15 #[.val (.int p0), .val (.long q1), .second, .val (.int (Int32.ofNat n)), .unset, .unset, .unset, .unset, .unset] [(.int (0 : Int32)), (.int (0 : Int32)), (.ref b1), (.ref b1)]))
  obtain ⟨T2, h2, X2, e2, W2, A2, st2⟩ := own_stI X1 hx hZ e1 A1 (i := 0) rfl (by decide) (g := (mkF m 15 #[.val (.int p0), .val (.long q1), .second, .val (.int (Int32.ofNat n)), .unset, .unset, .unset, .unset, .unset] [(.int (0 : Int32)), (.int (0 : Int32)), (.ref b1), (.ref b1)])) rfl rfl (hb hby at_15)
  have N2 := Fr.snoc X2 N0 gb1
  have Z2 := Nat.le_trans Z1 (Keep.of_wr W2).1
  have K2 := Keep.wr K1 W2 (Or.inr sb1)
  refine Goes.go st2 ?_
  show Goes p e below s _ _ _ (T2.setTop (mkF m 16 #[.val (.int p0), .val (.long q1), .second, .val (.int (Int32.ofNat n)), .unset, .unset, .unset, .unset, .unset] [(.ref b1)]))
  refine Goes.go (fun _ kst => XS.dup X2.here hx rfl (hb hby at_16) rfl rfl kst) ?_
  show Goes p e below s _ _ _ (T2.setTop (mkF m 17 #[.val (.int p0), .val (.long q1), .second, .val (.int (Int32.ofNat n)), .unset, .unset, .unset, .unset, .unset] [(.ref b1), (.ref b1)]))
  refine Goes.go (fun _ kst => XS.iconst X2.here hx rfl (hb hby at_17) kst) ?_
  show Goes p e below s _ _ _ (T2.setTop (mkF m 18 #[.val (.int p0), .val (.long q1), .second, .val (.int (Int32.ofNat n)), .unset, .unset, .unset, .unset, .unset] [(.int (1 : Int32)), (.ref b1), (.ref b1)]))
  refine Goes.go (fun _ kst => XS.iconst X2.here hx rfl (hb hby at_18) kst) ?_
  show Goes p e below s _ _ _ (T2.setTop (mkF m 19 #[.val (.int p0), .val (.long q1), .second, .val (.int (Int32.ofNat n)), .unset, .unset, .unset, .unset, .unset] [(.int (2 : Int32)), (.int (1 : Int32)), (.ref b1), (.ref b1)]))
  obtain ⟨T3, h3, X3, e3, W3, A3, st3⟩ := own_stI X2 hx hZ e2 A2 (i := 1) rfl (by decide) (g := (mkF m 19 #[.val (.int p0), .val (.long q1), .second, .val (.int (Int32.ofNat n)), .unset, .unset, .unset, .unset, .unset] [(.int (2 : Int32)), (.int (1 : Int32)), (.ref b1), (.ref b1)])) rfl rfl (hb hby at_19)
  have N3 := Fr.snoc X3 N2 gb1
  have Z3 := Nat.le_trans Z2 (Keep.of_wr W3).1
  have K3 := Keep.wr K2 W3 (Or.inr sb1)
  refine Goes.go st3 ?_
  show Goes p e below s _ _ _ (T3.setTop (mkF m 20 #[.val (.int p0), .val (.long q1), .second, .val (.int (Int32.ofNat n)), .unset, .unset, .unset, .unset, .unset] [(.ref b1)]))
  refine Goes.go (fun _ kst => XS.dup X3.here hx rfl (hb hby at_20) rfl rfl kst) ?_
  show Goes p e below s _ _ _ (T3.setTop (mkF m 21 #[.val (.int p0), .val (.long q1), .second, .val (.int (Int32.ofNat n)), .unset, .unset, .unset, .unset, .unset] [(.ref b1), (.ref b1)]))
  refine Goes.go (fun _ kst => XS.iconst X3.here hx rfl (hb hby at_21) kst) ?_
  show Goes p e below s _ _ _ (T3.setTop (mkF m 22 #[.val (.int p0), .val (.long q1), .second, .val (.int (Int32.ofNat n)), .unset, .unset, .unset, .unset, .unset] [(.int (2 : Int32)), (.ref b1), (.ref b1)]))
  refine Goes.go (fun _ kst => XS.iconst X3.here hx rfl (hb hby at_22) kst) ?_
  show Goes p e below s _ _ _ (T3.setTop (mkF m 23 #[.val (.int p0), .val (.long q1), .second, .val (.int (Int32.ofNat n)), .unset, .unset, .unset, .unset, .unset] [(.int (4 : Int32)), (.int (2 : Int32)), (.ref b1), (.ref b1)]))
  obtain ⟨T4, h4, X4, e4, W4, A4, st4⟩ := own_stI X3 hx hZ e3 A3 (i := 2) rfl (by decide) (g := (mkF m 23 #[.val (.int p0), .val (.long q1), .second, .val (.int (Int32.ofNat n)), .unset, .unset, .unset, .unset, .unset] [(.int (4 : Int32)), (.int (2 : Int32)), (.ref b1), (.ref b1)])) rfl rfl (hb hby at_23)
  have N4 := Fr.snoc X4 N3 gb1
  have Z4 := Nat.le_trans Z3 (Keep.of_wr W4).1
  have K4 := Keep.wr K3 W4 (Or.inr sb1)
  refine Goes.go st4 ?_
  show Goes p e below s _ _ _ (T4.setTop (mkF m 24 #[.val (.int p0), .val (.long q1), .second, .val (.int (Int32.ofNat n)), .unset, .unset, .unset, .unset, .unset] [(.ref b1)]))
  refine Goes.go (fun _ kst => XS.dup X4.here hx rfl (hb hby at_24) rfl rfl kst) ?_
  show Goes p e below s _ _ _ (T4.setTop (mkF m 25 #[.val (.int p0), .val (.long q1), .second, .val (.int (Int32.ofNat n)), .unset, .unset, .unset, .unset, .unset] [(.ref b1), (.ref b1)]))
  refine Goes.go (fun _ kst => XS.iconst X4.here hx rfl (hb hby at_25) kst) ?_
  show Goes p e below s _ _ _ (T4.setTop (mkF m 26 #[.val (.int p0), .val (.long q1), .second, .val (.int (Int32.ofNat n)), .unset, .unset, .unset, .unset, .unset] [(.int (3 : Int32)), (.ref b1), (.ref b1)]))
  refine Goes.go (fun _ kst => XS.iconst X4.here hx rfl (hb hby at_26) kst) ?_
  show Goes p e below s _ _ _ (T4.setTop (mkF m 27 #[.val (.int p0), .val (.long q1), .second, .val (.int (Int32.ofNat n)), .unset, .unset, .unset, .unset, .unset] [(.int (5 : Int32)), (.int (3 : Int32)), (.ref b1), (.ref b1)]))
  obtain ⟨T5, h5, X5, e5, W5, A5, st5⟩ := own_stI X4 hx hZ e4 A4 (i := 3) rfl (by decide) (g := (mkF m 27 #[.val (.int p0), .val (.long q1), .second, .val (.int (Int32.ofNat n)), .unset, .unset, .unset, .unset, .unset] [(.int (5 : Int32)), (.int (3 : Int32)), (.ref b1), (.ref b1)])) rfl rfl (hb hby at_27)
  have N5 := Fr.snoc X5 N4 gb1
  have Z5 := Nat.le_trans Z4 (Keep.of_wr W5).1
  have K5 := Keep.wr K4 W5 (Or.inr sb1)
  refine Goes.go st5 ?_
  show Goes p e below s _ _ _ (T5.setTop (mkF m 28 #[.val (.int p0), .val (.long q1), .second, .val (.int (Int32.ofNat n)), .unset, .unset, .unset, .unset, .unset] [(.ref b1)]))
  refine Goes.go (fun _ kst => XS.dup X5.here hx rfl (hb hby at_28) rfl rfl kst) ?_
  show Goes p e below s _ _ _ (T5.setTop (mkF m 29 #[.val (.int p0), .val (.long q1), .second, .val (.int (Int32.ofNat n)), .unset, .unset, .unset, .unset, .unset] [(.ref b1), (.ref b1)]))
  refine Goes.go (fun _ kst => XS.iconst X5.here hx rfl (hb hby at_29) kst) ?_
  show Goes p e below s _ _ _ (T5.setTop (mkF m 30 #[.val (.int p0), .val (.long q1), .second, .val (.int (Int32.ofNat n)), .unset, .unset, .unset, .unset, .unset] [(.int (4 : Int32)), (.ref b1), (.ref b1)]))
  refine Goes.go (fun _ kst => XS.bipush X5.here hx rfl (hb hby at_30) kst) ?_
  show Goes p e below s _ _ _ (T5.setTop (mkF m 32 #[.val (.int p0), .val (.long q1), .second, .val (.int (Int32.ofNat n)), .unset, .unset, .unset, .unset, .unset] [(.int (7 : Int32)), (.int (4 : Int32)), (.ref b1), (.ref b1)]))
  obtain ⟨T6, h6, X6, e6, W6, A6, st6⟩ := own_stI X5 hx hZ e5 A5 (i := 4) rfl (by decide) (g := (mkF m 32 #[.val (.int p0), .val (.long q1), .second, .val (.int (Int32.ofNat n)), .unset, .unset, .unset, .unset, .unset] [(.int (7 : Int32)), (.int (4 : Int32)), (.ref b1), (.ref b1)])) rfl rfl (hb hby at_32)
  have N6 := Fr.snoc X6 N5 gb1
  have Z6 := Nat.le_trans Z5 (Keep.of_wr W6).1
  have K6 := Keep.wr K5 W6 (Or.inr sb1)
  refine Goes.go st6 ?_
  show Goes p e below s _ _ _ (T6.setTop (mkF m 33 #[.val (.int p0), .val (.long q1), .second, .val (.int (Int32.ofNat n)), .unset, .unset, .unset, .unset, .unset] [(.ref b1)]))
  refine Goes.go (fun _ kst => XS.dup X6.here hx rfl (hb hby at_33) rfl rfl kst) ?_
  show Goes p e below s _ _ _ (T6.setTop (mkF m 34 #[.val (.int p0), .val (.long q1), .second, .val (.int (Int32.ofNat n)), .unset, .unset, .unset, .unset, .unset] [(.ref b1), (.ref b1)]))
  refine Goes.go (fun _ kst => XS.iconst X6.here hx rfl (hb hby at_34) kst) ?_
  show Goes p e below s _ _ _ (T6.setTop (mkF m 35 #[.val (.int p0), .val (.long q1), .second, .val (.int (Int32.ofNat n)), .unset, .unset, .unset, .unset, .unset] [(.int (5 : Int32)), (.ref b1), (.ref b1)]))
  refine Goes.go (fun _ kst => XS.bipush X6.here hx rfl (hb hby at_35) kst) ?_
  show Goes p e below s _ _ _ (T6.setTop (mkF m 37 #[.val (.int p0), .val (.long q1), .second, .val (.int (Int32.ofNat n)), .unset, .unset, .unset, .unset, .unset] [(.int (8 : Int32)), (.int (5 : Int32)), (.ref b1), (.ref b1)]))
  obtain ⟨T7, h7, X7, e7, W7, A7, st7⟩ := own_stI X6 hx hZ e6 A6 (i := 5) rfl (by decide) (g := (mkF m 37 #[.val (.int p0), .val (.long q1), .second, .val (.int (Int32.ofNat n)), .unset, .unset, .unset, .unset, .unset] [(.int (8 : Int32)), (.int (5 : Int32)), (.ref b1), (.ref b1)])) rfl rfl (hb hby at_37)
  have N7 := Fr.snoc X7 N6 gb1
  have Z7 := Nat.le_trans Z6 (Keep.of_wr W7).1
  have K7 := Keep.wr K6 W7 (Or.inr sb1)
  refine Goes.go st7 ?_
  show Goes p e below s _ _ _ (T7.setTop (mkF m 38 #[.val (.int p0), .val (.long q1), .second, .val (.int (Int32.ofNat n)), .unset, .unset, .unset, .unset, .unset] [(.ref b1)]))
  refine Goes.go (fun _ kst => XS.dup X7.here hx rfl (hb hby at_38) rfl rfl kst) ?_
  show Goes p e below s _ _ _ (T7.setTop (mkF m 39 #[.val (.int p0), .val (.long q1), .second, .val (.int (Int32.ofNat n)), .unset, .unset, .unset, .unset, .unset] [(.ref b1), (.ref b1)]))
  refine Goes.go (fun _ kst => XS.bipush X7.here hx rfl (hb hby at_39) kst) ?_
  show Goes p e below s _ _ _ (T7.setTop (mkF m 41 #[.val (.int p0), .val (.long q1), .second, .val (.int (Int32.ofNat n)), .unset, .unset, .unset, .unset, .unset] [(.int (6 : Int32)), (.ref b1), (.ref b1)]))
  refine Goes.go (fun _ kst => XS.bipush X7.here hx rfl (hb hby at_41) kst) ?_
  show Goes p e below s _ _ _ (T7.setTop (mkF m 43 #[.val (.int p0), .val (.long q1), .second, .val (.int (Int32.ofNat n)), .unset, .unset, .unset, .unset, .unset] [(.int (10 : Int32)), (.int (6 : Int32)), (.ref b1), (.ref b1)]))
  obtain ⟨T8, h8, X8, e8, W8, A8, st8⟩ := own_stI X7 hx hZ e7 A7 (i := 6) rfl (by decide) (g := (mkF m 43 #[.val (.int p0), .val (.long q1), .second, .val (.int (Int32.ofNat n)), .unset, .unset, .unset, .unset, .unset] [(.int (10 : Int32)), (.int (6 : Int32)), (.ref b1), (.ref b1)])) rfl rfl (hb hby at_43)
  have N8 := Fr.snoc X8 N7 gb1
  have Z8 := Nat.le_trans Z7 (Keep.of_wr W8).1
  have K8 := Keep.wr K7 W8 (Or.inr sb1)
  refine Goes.go st8 ?_
  show Goes p e below s _ _ _ (T8.setTop (mkF m 44 #[.val (.int p0), .val (.long q1), .second, .val (.int (Int32.ofNat n)), .unset, .unset, .unset, .unset, .unset] [(.ref b1)]))
  refine Goes.go (fun _ kst => XS.dup X8.here hx rfl (hb hby at_44) rfl rfl kst) ?_
  show Goes p e below s _ _ _ (T8.setTop (mkF m 45 #[.val (.int p0), .val (.long q1), .second, .val (.int (Int32.ofNat n)), .unset, .unset, .unset, .unset, .unset] [(.ref b1), (.ref b1)]))
  refine Goes.go (fun _ kst => XS.bipush X8.here hx rfl (hb hby at_45) kst) ?_
  show Goes p e below s _ _ _ (T8.setTop (mkF m 47 #[.val (.int p0), .val (.long q1), .second, .val (.int (Int32.ofNat n)), .unset, .unset, .unset, .unset, .unset] [(.int (7 : Int32)), (.ref b1), (.ref b1)]))
  refine Goes.go (fun _ kst => XS.bipush X8.here hx rfl (hb hby at_47) kst) ?_
  show Goes p e below s _ _ _ (T8.setTop (mkF m 49 #[.val (.int p0), .val (.long q1), .second, .val (.int (Int32.ofNat n)), .unset, .unset, .unset, .unset, .unset] [(.int (12 : Int32)), (.int (7 : Int32)), (.ref b1), (.ref b1)]))
  obtain ⟨T9, h9, X9, e9, W9, A9, st9⟩ := own_stI X8 hx hZ e8 A8 (i := 7) rfl (by decide) (g := (mkF m 49 #[.val (.int p0), .val (.long q1), .second, .val (.int (Int32.ofNat n)), .unset, .unset, .unset, .unset, .unset] [(.int (12 : Int32)), (.int (7 : Int32)), (.ref b1), (.ref b1)])) rfl rfl (hb hby at_49)
  have N9 := Fr.snoc X9 N8 gb1
  have Z9 := Nat.le_trans Z8 (Keep.of_wr W9).1
  have K9 := Keep.wr K8 W9 (Or.inr sb1)
  refine Goes.go st9 ?_
  show Goes p e below s _ _ _ (T9.setTop (mkF m 50 #[.val (.int p0), .val (.long q1), .second, .val (.int (Int32.ofNat n)), .unset, .unset, .unset, .unset, .unset] [(.ref b1)]))
  refine Goes.go (fun _ kst => XS.dup X9.here hx rfl (hb hby at_50) rfl rfl kst) ?_
  show Goes p e below s _ _ _ (T9.setTop (mkF m 51 #[.val (.int p0), .val (.long q1), .second, .val (.int (Int32.ofNat n)), .unset, .unset, .unset, .unset, .unset] [(.ref b1), (.ref b1)]))
  refine Goes.go (fun _ kst => XS.bipush X9.here hx rfl (hb hby at_51) kst) ?_
  show Goes p e below s _ _ _ (T9.setTop (mkF m 53 #[.val (.int p0), .val (.long q1), .second, .val (.int (Int32.ofNat n)), .unset, .unset, .unset, .unset, .unset] [(.int (8 : Int32)), (.ref b1), (.ref b1)]))
  refine Goes.go (fun _ kst => XS.bipush X9.here hx rfl (hb hby at_53) kst) ?_
  show Goes p e below s _ _ _ (T9.setTop (mkF m 55 #[.val (.int p0), .val (.long q1), .second, .val (.int (Int32.ofNat n)), .unset, .unset, .unset, .unset, .unset] [(.int (13 : Int32)), (.int (8 : Int32)), (.ref b1), (.ref b1)]))
  obtain ⟨T10, h10, X10, e10, W10, A10, st10⟩ := own_stI X9 hx hZ e9 A9 (i := 8) rfl (by decide) (g := (mkF m 55 #[.val (.int p0), .val (.long q1), .second, .val (.int (Int32.ofNat n)), .unset, .unset, .unset, .unset, .unset] [(.int (13 : Int32)), (.int (8 : Int32)), (.ref b1), (.ref b1)])) rfl rfl (hb hby at_55)
  have N10 := Fr.snoc X10 N9 gb1
  have Z10 := Nat.le_trans Z9 (Keep.of_wr W10).1
  have K10 := Keep.wr K9 W10 (Or.inr sb1)
  refine Goes.go st10 ?_
  show Goes p e below s _ _ _ (T10.setTop (mkF m 56 #[.val (.int p0), .val (.long q1), .second, .val (.int (Int32.ofNat n)), .unset, .unset, .unset, .unset, .unset] [(.ref b1)]))
  refine Goes.go (fun _ kst => XS.astore X10.here hx rfl (hb hby at_56) rfl rfl (l' := #[.val (.int p0), .val (.long q1), .second, .val (.int (Int32.ofNat n)), .val (.ref b1), .unset, .unset, .unset, .unset]) rfl kst) ?_
  show Goes p e below s _ _ _ (T10.setTop (mkF m 58 #[.val (.int p0), .val (.long q1), .second, .val (.int (Int32.ofNat n)), .val (.ref b1), .unset, .unset, .unset, .unset] []))
  refine Goes.go (fun _ kst => XS.iloadN X10.here hx rfl (hb hby at_58) rfl  kst) ?_
  show Goes p e below s _ _ _ (T10.setTop (mkF m 59 #[.val (.int p0), .val (.long q1), .second, .val (.int (Int32.ofNat n)), .val (.ref b1), .unset, .unset, .unset, .unset] [(.int (Int32.ofNat n))]))
  obtain ⟨T11, h11, X11, e11, E11, A11, EA11, st11⟩ := own_newA X10 hx hZ (hw _ (List.mem_of_getElem? (i := 2) rfl)) e10 (g := (mkF m 59 #[.val (.int p0), .val (.long q1), .second, .val (.int (Int32.ofNat n)), .val (.ref b1), .unset, .unset, .unset, .unset] [(.int (Int32.ofNat n))])) rfl (hb hby at_59) rfl (n := n) rfl (cap := 8) hn8 (by decide) (by decide) (by decide) (by decide) (by decide) (by decide : _ = "[B")
  obtain ⟨b11, g11⟩ : ∃ z, z = h10.size := ⟨_, rfl⟩
  rw [← g11] at A11 EA11 st11
  have gb11 : n0 ≤ b11 := Nat.le_trans Z10 (Nat.le_of_eq g11.symm)
  have sb11 : h0.size ≤ b11 := Nat.le_trans K10.1 (Nat.le_of_eq g11.symm)
  have Z11 := Nat.le_trans Z10 E11.1
  have K11 := Keep.ext K10 E11
  refine Goes.go st11 ?_
  show Goes p e below s _ _ _ (T11.setTop (mkF m 61 #[.val (.int p0), .val (.long q1), .second, .val (.int (Int32.ofNat n)), .val (.ref b1), .unset, .unset, .unset, .unset] [(.ref b11)]))
  refine Goes.go (fun _ kst => XS.astore X11.here hx rfl (hb hby at_61) rfl rfl (l' := #[.val (.int p0), .val (.long q1), .second, .val (.int (Int32.ofNat n)), .val (.ref b1), .val (.ref b11), .unset, .unset, .unset]) rfl kst) ?_
  have An12 := (A10.ext E11)
  generalize hv_lens : (own_upd (own_upd (own_upd (own_upd (own_upd (own_upd (own_upd (own_upd (own_upd (fun _ => 0) 0 (0 : Int32)) 1 (2 : Int32)) 2 (4 : Int32)) 3 (5 : Int32)) 4 (7 : Int32)) 5 (8 : Int32)) 6 (10 : Int32)) 7 (12 : Int32)) 8 (13 : Int32)) = lens at An12
  have hlens : ∀ i : Fin 9, Int32.ofNat ((8 * i.val + 4) / 5) = lens i.val := by subst hv_lens; decide +kernel
  have hlen := hlens ⟨n, hn9⟩
  dsimp only at hlen
  have ne45 : b1 ≠ b11 := (Nat.ne_of_lt (Nat.lt_of_lt_of_le (((((((((EA1.wr W2).wr W3).wr W4).wr W5).wr W6).wr W7).wr W8).wr W9).wr W10).lt (Nat.le_of_eq g11.symm)))
  have J183 : ∀ {TJ : State} {lj : List Loc} {hJ : Heap} (XJ : Stand p l e room_1 s m #[(.int p0), (.long q1)] below meth c TJ lj (0 + 1 + 1) (0 + 9 + 8)) (eJ : TJ.heap = hJ) (NJ : Fr n0 lj) (ZJ : n0 ≤ hJ.size) (KJ : Keep h0 hJ []) (AL : IA Z hJ b1 .int 9 lens) (AB : IA Z hJ b11 .byte n (own_P q1 8)), Goes p e below s (Q0 n0) room_1.cells room_1.slots (TJ.setTop (mkF m 183 #[.val (.int p0), .val (.long q1), .second, .val (.int (Int32.ofNat n)), .val (.ref b1), .val (.ref b11), .unset, .unset, .unset] [])) := by
    intro TJ lj hJ XJ eJ NJ ZJ KJ AL AB
    have hy8 := own_Y q1 hn8
    show Goes p e below s _ _ _ (TJ.setTop (mkF m 183 #[.val (.int p0), .val (.long q1), .second, .val (.int (Int32.ofNat n)), .val (.ref b1), .val (.ref b11), .unset, .unset, .unset] []))
    refine Goes.go (fun _ kst => XS.lconst XJ.here hx rfl (hb hby at_183) kst) ?_
    show Goes p e below s _ _ _ (TJ.setTop (mkF m 184 #[.val (.int p0), .val (.long q1), .second, .val (.int (Int32.ofNat n)), .val (.ref b1), .val (.ref b11), .unset, .unset, .unset] [(.long (0 : Int64))]))
    refine Goes.go (fun _ kst => XS.lstore XJ.here hx rfl (hb hby at_184) rfl (l' := #[.val (.int p0), .val (.long q1), .second, .val (.int (Int32.ofNat n)), .val (.ref b1), .val (.ref b11), .val (.long (0 : Int64)), .second, .unset]) rfl kst) ?_
    show Goes p e below s _ _ _ (TJ.setTop (mkF m 186 #[.val (.int p0), .val (.long q1), .second, .val (.int (Int32.ofNat n)), .val (.ref b1), .val (.ref b11), .val (.long (0 : Int64)), .second, .unset] []))
    refine Goes.go (fun _ kst => XS.iloadN XJ.here hx rfl (hb hby at_186) rfl  kst) ?_
    show Goes p e below s _ _ _ (TJ.setTop (mkF m 187 #[.val (.int p0), .val (.long q1), .second, .val (.int (Int32.ofNat n)), .val (.ref b1), .val (.ref b11), .val (.long (0 : Int64)), .second, .unset] [(.int (Int32.ofNat n))]))
    obtain ⟨z13_l6, hz13_l6⟩ : ∃ z : Int64, z = if (0 : Int32) < (Int32.ofNat n) then (q1 &&& ((-1 : Int64) <<< (((64 : Int32) - ((8 : Int32) * (Int32.ofNat n))) &&& 0x3f).toInt64)) else (0 : Int64) := ⟨_, rfl⟩
    have sm13 : ∀ t, Steps p.tables e below (TJ.setTop (mkF m 205 #[.val (.int p0), .val (.long q1), .second, .val (.int (Int32.ofNat n)), .val (.ref b1), .val (.ref b11), .val (.long z13_l6), .second, .unset] [])) t → Steps p.tables e below (TJ.setTop (mkF m 187 #[.val (.int p0), .val (.long q1), .second, .val (.int (Int32.ofNat n)), .val (.ref b1), .val (.ref b11), .val (.long (0 : Int64)), .second, .unset] [(.int (Int32.ofNat n))])) t := by
      intro t kst
      by_cases hc187_13 : (0 : Int32) < (Int32.ofNat n)
      · have kst2 : Steps p.tables e below (TJ.setTop (mkF m 205 #[.val (.int p0), .val (.long q1), .second, .val (.int (Int32.ofNat n)), .val (.ref b1), .val (.ref b11), .val (.long (q1 &&& ((-1 : Int64) <<< (((64 : Int32) - ((8 : Int32) * (Int32.ofNat n))) &&& 0x3f).toInt64))), .second, .unset] [])) t := by simpa only [hz13_l6, if_pos hc187_13] using kst
        show Steps p.tables e below (TJ.setTop (mkF m 187 #[.val (.int p0), .val (.long q1), .second, .val (.int (Int32.ofNat n)), .val (.ref b1), .val (.ref b11), .val (.long (0 : Int64)), .second, .unset] [(.int (Int32.ofNat n))])) _
        refine XS.ifNo XJ.here hx rfl (hb hby at_187) rfl ((if0 _ _).trans (tlt hc187_13).2.2.2) ?_
        show Steps p.tables e below (TJ.setTop (mkF m 190 #[.val (.int p0), .val (.long q1), .second, .val (.int (Int32.ofNat n)), .val (.ref b1), .val (.ref b11), .val (.long (0 : Int64)), .second, .unset] [])) _
        refine XS.lloadN XJ.here hx rfl (hb hby at_190) rfl  ?_
        show Steps p.tables e below (TJ.setTop (mkF m 191 #[.val (.int p0), .val (.long q1), .second, .val (.int (Int32.ofNat n)), .val (.ref b1), .val (.ref b11), .val (.long (0 : Int64)), .second, .unset] [(.long q1)])) _
        refine XJ.ldc2Long hx hown (mvT hZ (hw _ (List.mem_of_getElem? (i := 11) rfl))) (g := (mkF m 191 #[.val (.int p0), .val (.long q1), .second, .val (.int (Int32.ofNat n)), .val (.ref b1), .val (.ref b11), .val (.long (0 : Int64)), .second, .unset] [(.long q1)])) rfl (hb hby at_191) _ ?_
        show Steps p.tables e below (TJ.setTop (mkF m 194 #[.val (.int p0), .val (.long q1), .second, .val (.int (Int32.ofNat n)), .val (.ref b1), .val (.ref b11), .val (.long (0 : Int64)), .second, .unset] [(.long (-1 : Int64)), (.long q1)])) _
        refine XS.bipush XJ.here hx rfl (hb hby at_194) ?_
        show Steps p.tables e below (TJ.setTop (mkF m 196 #[.val (.int p0), .val (.long q1), .second, .val (.int (Int32.ofNat n)), .val (.ref b1), .val (.ref b11), .val (.long (0 : Int64)), .second, .unset] [(.int (64 : Int32)), (.long (-1 : Int64)), (.long q1)])) _
        refine XS.bipush XJ.here hx rfl (hb hby at_196) ?_
        show Steps p.tables e below (TJ.setTop (mkF m 198 #[.val (.int p0), .val (.long q1), .second, .val (.int (Int32.ofNat n)), .val (.ref b1), .val (.ref b11), .val (.long (0 : Int64)), .second, .unset] [(.int (8 : Int32)), (.int (64 : Int32)), (.long (-1 : Int64)), (.long q1)])) _
        refine XS.iloadN XJ.here hx rfl (hb hby at_198) rfl  ?_
        show Steps p.tables e below (TJ.setTop (mkF m 199 #[.val (.int p0), .val (.long q1), .second, .val (.int (Int32.ofNat n)), .val (.ref b1), .val (.ref b11), .val (.long (0 : Int64)), .second, .unset] [(.int (Int32.ofNat n)), (.int (8 : Int32)), (.int (64 : Int32)), (.long (-1 : Int64)), (.long q1)])) _
        refine XS.imul XJ.here hx rfl (hb hby at_199) rfl ?_
        show Steps p.tables e below (TJ.setTop (mkF m 200 #[.val (.int p0), .val (.long q1), .second, .val (.int (Int32.ofNat n)), .val (.ref b1), .val (.ref b11), .val (.long (0 : Int64)), .second, .unset] [(.int ((8 : Int32) * (Int32.ofNat n))), (.int (64 : Int32)), (.long (-1 : Int64)), (.long q1)])) _
        refine XS.isub XJ.here hx rfl (hb hby at_200) rfl ?_
        show Steps p.tables e below (TJ.setTop (mkF m 201 #[.val (.int p0), .val (.long q1), .second, .val (.int (Int32.ofNat n)), .val (.ref b1), .val (.ref b11), .val (.long (0 : Int64)), .second, .unset] [(.int ((64 : Int32) - ((8 : Int32) * (Int32.ofNat n)))), (.long (-1 : Int64)), (.long q1)])) _
        refine XS.lshl XJ.here hx rfl (hb hby at_201) rfl ?_
        show Steps p.tables e below (TJ.setTop (mkF m 202 #[.val (.int p0), .val (.long q1), .second, .val (.int (Int32.ofNat n)), .val (.ref b1), .val (.ref b11), .val (.long (0 : Int64)), .second, .unset] [(.long ((-1 : Int64) <<< (((64 : Int32) - ((8 : Int32) * (Int32.ofNat n))) &&& 0x3f).toInt64)), (.long q1)])) _
        refine XS.land XJ.here hx rfl (hb hby at_202) rfl ?_
        show Steps p.tables e below (TJ.setTop (mkF m 203 #[.val (.int p0), .val (.long q1), .second, .val (.int (Int32.ofNat n)), .val (.ref b1), .val (.ref b11), .val (.long (0 : Int64)), .second, .unset] [(.long (q1 &&& ((-1 : Int64) <<< (((64 : Int32) - ((8 : Int32) * (Int32.ofNat n))) &&& 0x3f).toInt64)))])) _
        refine XS.lstore XJ.here hx rfl (hb hby at_203) rfl (l' := #[.val (.int p0), .val (.long q1), .second, .val (.int (Int32.ofNat n)), .val (.ref b1), .val (.ref b11), .val (.long (q1 &&& ((-1 : Int64) <<< (((64 : Int32) - ((8 : Int32) * (Int32.ofNat n))) &&& 0x3f).toInt64))), .second, .unset]) rfl ?_
        exact kst2
      · have kst2 : Steps p.tables e below (TJ.setTop (mkF m 205 #[.val (.int p0), .val (.long q1), .second, .val (.int (Int32.ofNat n)), .val (.ref b1), .val (.ref b11), .val (.long (0 : Int64)), .second, .unset] [])) t := by simpa only [hz13_l6, if_neg hc187_13] using kst
        show Steps p.tables e below (TJ.setTop (mkF m 187 #[.val (.int p0), .val (.long q1), .second, .val (.int (Int32.ofNat n)), .val (.ref b1), .val (.ref b11), .val (.long (0 : Int64)), .second, .unset] [(.int (Int32.ofNat n))])) _
        refine XS.ifYes XJ.here hx rfl (pc0 := 187) (pc' := 205) rfl (hb hby at_187) rfl ((if0 _ _).trans (flt hc187_13).2.2.2) (by decide) (by decide) ?_
        exact kst2
    refine Goes.go sm13 ?_
    show Goes p e below s _ _ _ (TJ.setTop (mkF m 205 #[.val (.int p0), .val (.long q1), .second, .val (.int (Int32.ofNat n)), .val (.ref b1), .val (.ref b11), .val (.long z13_l6), .second, .unset] []))
    refine Goes.go (fun _ kst => XS.aload XJ.here hx rfl (hb hby at_205) rfl rfl  kst) ?_
    show Goes p e below s _ _ _ (TJ.setTop (mkF m 207 #[.val (.int p0), .val (.long q1), .second, .val (.int (Int32.ofNat n)), .val (.ref b1), .val (.ref b11), .val (.long z13_l6), .second, .unset] [(.ref b11)]))
    obtain ⟨_, _, ⟨T14, L14, k14, n14⟩, -, X14, ⟨Lc14, hQ14, l14, y14, z14⟩, st14⟩ := Jvm.LawKit.callS XJ hx (y := (⟨"com/example/outpoint/outpoint/Bech32", "toFiveBit", "([B)[I"⟩ : MethodName)) hown (mvT hZ (hw _ (List.mem_of_getElem? (i := 3) rfl))) (mvT hZ (hw _ (List.mem_of_getElem? (i := 4) rfl))) (mvT hZ (hw _ (List.mem_of_getElem? (i := 5) rfl))) (mvT hZ (hw _ (List.mem_of_getElem? (i := 6) rfl))) (by decide) (backOf (W := 0) (rm1 l Z a0 hw [] b11 n (own_P q1 8) hJ n0 ZJ AB hn8) hZ (hw _ (List.mem_of_getElem? (i := 6) rfl)) (hw _ (List.mem_of_getElem? (i := 5) rfl)) (by decide) (by decide)) (g := (mkF m 207 #[.val (.int p0), .val (.long q1), .second, .val (.int (Int32.ofNat n)), .val (.ref b1), .val (.ref b11), .val (.long z13_l6), .second, .unset] [(.ref b11)])) rfl (by rw [hml]; rfl) (argsL := [(.ref b11)]) (rest := []) (lenOf pd_1 rfl) rfl (by show 2 * 0 + _ ≤ _; exact Nat.le_of_eq rfl) (hb hby at_207) (fun _ _ => ⟨rfl, eJ, (by decide : 2 + 1 ≤ _), (by decide : 17 + 13 ≤ _)⟩)
    dsimp only [Pt.U, Pt.locs, Pt.cells, Pt.slots] at X14 l14 y14 z14 st14 hQ14
    subst l14 y14 z14
    obtain ⟨h14, e14⟩ : ∃ z, T14.heap = z := ⟨_, rfl⟩
    rw [e14] at hQ14
    obtain ⟨c14, sb_c14, rfl, N14q, Kq14, A14⟩ := hQ14
    have N14 := Fr.app NJ N14q
    have K14 := Keep.trans KJ Kq14 all0
    have Z14 := Nat.le_trans ZJ Kq14.1
    refine Goes.go st14 ?_
    show Goes p e below s _ _ _ (T14.setTop (mkF m 210 #[.val (.int p0), .val (.long q1), .second, .val (.int (Int32.ofNat n)), .val (.ref b1), .val (.ref b11), .val (.long z13_l6), .second, .unset] [(.ref c14)]))
    refine Goes.go (fun _ kst => XS.astore X14.here hx rfl (hb hby at_210) rfl rfl (l' := #[.val (.int p0), .val (.long q1), .second, .val (.int (Int32.ofNat n)), .val (.ref b1), .val (.ref b11), .val (.long z13_l6), .second, .val (.ref c14)]) rfl kst) ?_
    show Goes p e below s _ _ _ (T14.setTop (mkF m 212 #[.val (.int p0), .val (.long q1), .second, .val (.int (Int32.ofNat n)), .val (.ref b1), .val (.ref b11), .val (.long z13_l6), .second, .val (.ref c14)] []))
    refine Goes.go (fun _ kst => XS.aload X14.here hx rfl (hb hby at_212) rfl rfl  kst) ?_
    show Goes p e below s _ _ _ (T14.setTop (mkF m 214 #[.val (.int p0), .val (.long q1), .second, .val (.int (Int32.ofNat n)), .val (.ref b1), .val (.ref b11), .val (.long z13_l6), .second, .val (.ref c14)] [(.ref c14)]))
    refine Goes.go (own_len X14 hx hZ e14 A14 (g := (mkF m 214 #[.val (.int p0), .val (.long q1), .second, .val (.int (Int32.ofNat n)), .val (.ref b1), .val (.ref b11), .val (.long z13_l6), .second, .val (.ref c14)] [(.ref c14)])) rfl rfl (hb hby at_214)) ?_
    show Goes p e below s _ _ _ (T14.setTop (mkF m 215 #[.val (.int p0), .val (.long q1), .second, .val (.int (Int32.ofNat n)), .val (.ref b1), .val (.ref b11), .val (.long z13_l6), .second, .val (.ref c14)] [(.int (Int32.ofNat ((8 * n + 4) / 5)))]))
    refine Goes.go (fun _ kst => XS.aload X14.here hx rfl (hb hby at_215) rfl rfl  kst) ?_
    show Goes p e below s _ _ _ (T14.setTop (mkF m 217 #[.val (.int p0), .val (.long q1), .second, .val (.int (Int32.ofNat n)), .val (.ref b1), .val (.ref b11), .val (.long z13_l6), .second, .val (.ref c14)] [(.ref b1), (.int (Int32.ofNat ((8 * n + 4) / 5)))]))
    refine Goes.go (fun _ kst => XS.iloadN X14.here hx rfl (hb hby at_217) rfl  kst) ?_
    show Goes p e below s _ _ _ (T14.setTop (mkF m 218 #[.val (.int p0), .val (.long q1), .second, .val (.int (Int32.ofNat n)), .val (.ref b1), .val (.ref b11), .val (.long z13_l6), .second, .val (.ref c14)] [(.int (Int32.ofNat n)), (.ref b1), (.int (Int32.ofNat ((8 * n + 4) / 5)))]))
    refine Goes.go (own_ldI X14 hx hZ e14 (AL.keep Kq14 nin0) (i := n) rfl hn9 (g := (mkF m 218 #[.val (.int p0), .val (.long q1), .second, .val (.int (Int32.ofNat n)), .val (.ref b1), .val (.ref b11), .val (.long z13_l6), .second, .val (.ref c14)] [(.int (Int32.ofNat n)), (.ref b1), (.int (Int32.ofNat ((8 * n + 4) / 5)))])) rfl rfl (hb hby at_218)) ?_
    show Goes p e below s _ _ _ (T14.setTop (mkF m 219 #[.val (.int p0), .val (.long q1), .second, .val (.int (Int32.ofNat n)), .val (.ref b1), .val (.ref b11), .val (.long z13_l6), .second, .val (.ref c14)] [(.int (lens n)), (.int (Int32.ofNat ((8 * n + 4) / 5)))]))
    have hc219_15 : (Int32.ofNat ((8 * n + 4) / 5)) = (lens n) := hlen
    refine Goes.go (fun _ kst => XS.icmpYes X14.here hx rfl (pc0 := 219) (pc' := 224) rfl (hb hby at_219) rfl (teq hc219_15).1 (by decide) (by decide) kst) ?_
    show Goes p e below s _ _ _ (T14.setTop (mkF m 224 #[.val (.int p0), .val (.long q1), .second, .val (.int (Int32.ofNat n)), .val (.ref b1), .val (.ref b11), .val (.long z13_l6), .second, .val (.ref c14)] []))
    refine Goes.go (fun _ kst => XS.aload X14.here hx rfl (hb hby at_224) rfl rfl  kst) ?_
    show Goes p e below s _ _ _ (T14.setTop (mkF m 226 #[.val (.int p0), .val (.long q1), .second, .val (.int (Int32.ofNat n)), .val (.ref b1), .val (.ref b11), .val (.long z13_l6), .second, .val (.ref c14)] [(.ref c14)]))
    refine Goes.go (fun _ kst => XS.iconst X14.here hx rfl (hb hby at_226) kst) ?_
    show Goes p e below s _ _ _ (T14.setTop (mkF m 227 #[.val (.int p0), .val (.long q1), .second, .val (.int (Int32.ofNat n)), .val (.ref b1), .val (.ref b11), .val (.long z13_l6), .second, .val (.ref c14)] [(.int (0 : Int32)), (.ref c14)]))
    refine Goes.go (fun _ kst => XS.lload X14.here hx rfl (hb hby at_227) rfl  kst) ?_
    show Goes p e below s _ _ _ (T14.setTop (mkF m 229 #[.val (.int p0), .val (.long q1), .second, .val (.int (Int32.ofNat n)), .val (.ref b1), .val (.ref b11), .val (.long z13_l6), .second, .val (.ref c14)] [(.long z13_l6), (.int (0 : Int32)), (.ref c14)]))
    obtain ⟨_, _, ⟨T16, L16, k16, n16⟩, -, X16, ⟨Lc16, hQ16, l16, y16, z16⟩, st16⟩ := Jvm.LawKit.callS X14 hx (y := (⟨"com/example/outpoint/outpoint/Bech32ToFiveBitPinLaw", "at", "([IIJ)Z"⟩ : MethodName)) hown (mvT hZ (hw _ (List.mem_of_getElem? (i := 7) rfl))) (mvT hZ (hw _ (List.mem_of_getElem? (i := 8) rfl))) (mvT hZ (hw _ (List.mem_of_getElem? (i := 9) rfl))) (mvT hZ (hw _ (List.mem_of_getElem? (i := 10) rfl))) (by decide) (backOf (W := 0) (rm2 l Z a0 hw [] c14 (0 : Int32) z13_l6 (((8 * n + 4) / 5)) (own_R (own_P q1 8) n) 0 h14 n0 Z14 A14 rfl (by decide)) hZ (hw _ (List.mem_of_getElem? (i := 10) rfl)) (hw _ (List.mem_of_getElem? (i := 9) rfl)) (by decide) (by decide)) (g := (mkF m 229 #[.val (.int p0), .val (.long q1), .second, .val (.int (Int32.ofNat n)), .val (.ref b1), .val (.ref b11), .val (.long z13_l6), .second, .val (.ref c14)] [(.long z13_l6), (.int (0 : Int32)), (.ref c14)])) rfl (by rw [hml]; rfl) (argsL := [(.ref c14), (.int (0 : Int32)), (.long z13_l6)]) (rest := []) (lenOf pd_2 rfl) rfl (by show 2 * 0 + _ ≤ _; exact Nat.le_of_eq rfl) (hb hby at_229) (fun _ _ => ⟨rfl, e14, (by decide : 3 + 0 ≤ _), (by decide : 30 + 0 ≤ _)⟩)
    dsimp only [Pt.U, Pt.locs, Pt.cells, Pt.slots] at X16 l16 y16 z16 st16 hQ16
    subst l16 y16 z16
    obtain ⟨rfl, N16q, e16⟩ := hQ16
    have N16 := Fr.app N14 N16q
    refine Goes.go st16 ?_
    show Goes p e below s _ _ _ (T16.setTop (mkF m 232 #[.val (.int p0), .val (.long q1), .second, .val (.int (Int32.ofNat n)), .val (.ref b1), .val (.ref b11), .val (.long z13_l6), .second, .val (.ref c14)] [(.int (f2 c14 (0 : Int32) z13_l6 (((8 * n + 4) / 5)) (own_R (own_P q1 8) n) 0))]))
    have hc232_17 : ¬ ((f2 c14 (0 : Int32) z13_l6 (((8 * n + 4) / 5)) (own_R (own_P q1 8) n) 0) = (0 : Int32)) := own_at0 hn8 (by rw [hz13_l6]; exact hy8)
    refine Goes.go (fun _ kst => XS.ifNo X16.here hx rfl (hb hby at_232) rfl ((if0 _ _).trans (feq hc232_17).1) kst) ?_
    show Goes p e below s _ _ _ (T16.setTop (mkF m 235 #[.val (.int p0), .val (.long q1), .second, .val (.int (Int32.ofNat n)), .val (.ref b1), .val (.ref b11), .val (.long z13_l6), .second, .val (.ref c14)] []))
    refine Goes.go (fun _ kst => XS.aload X16.here hx rfl (hb hby at_235) rfl rfl  kst) ?_
    show Goes p e below s _ _ _ (T16.setTop (mkF m 237 #[.val (.int p0), .val (.long q1), .second, .val (.int (Int32.ofNat n)), .val (.ref b1), .val (.ref b11), .val (.long z13_l6), .second, .val (.ref c14)] [(.ref c14)]))
    refine Goes.go (fun _ kst => XS.iconst X16.here hx rfl (hb hby at_237) kst) ?_
    show Goes p e below s _ _ _ (T16.setTop (mkF m 238 #[.val (.int p0), .val (.long q1), .second, .val (.int (Int32.ofNat n)), .val (.ref b1), .val (.ref b11), .val (.long z13_l6), .second, .val (.ref c14)] [(.int (1 : Int32)), (.ref c14)]))
    refine Goes.go (fun _ kst => XS.lload X16.here hx rfl (hb hby at_238) rfl  kst) ?_
    show Goes p e below s _ _ _ (T16.setTop (mkF m 240 #[.val (.int p0), .val (.long q1), .second, .val (.int (Int32.ofNat n)), .val (.ref b1), .val (.ref b11), .val (.long z13_l6), .second, .val (.ref c14)] [(.long z13_l6), (.int (1 : Int32)), (.ref c14)]))
    obtain ⟨_, _, ⟨T18, L18, k18, n18⟩, -, X18, ⟨Lc18, hQ18, l18, y18, z18⟩, st18⟩ := Jvm.LawKit.callS X16 hx (y := (⟨"com/example/outpoint/outpoint/Bech32ToFiveBitPinLaw", "at", "([IIJ)Z"⟩ : MethodName)) hown (mvT hZ (hw _ (List.mem_of_getElem? (i := 7) rfl))) (mvT hZ (hw _ (List.mem_of_getElem? (i := 8) rfl))) (mvT hZ (hw _ (List.mem_of_getElem? (i := 9) rfl))) (mvT hZ (hw _ (List.mem_of_getElem? (i := 10) rfl))) (by decide) (backOf (W := 0) (rm2 l Z a0 hw [] c14 (1 : Int32) z13_l6 (((8 * n + 4) / 5)) (own_R (own_P q1 8) n) 1 h14 n0 Z14 A14 rfl (by decide)) hZ (hw _ (List.mem_of_getElem? (i := 10) rfl)) (hw _ (List.mem_of_getElem? (i := 9) rfl)) (by decide) (by decide)) (g := (mkF m 240 #[.val (.int p0), .val (.long q1), .second, .val (.int (Int32.ofNat n)), .val (.ref b1), .val (.ref b11), .val (.long z13_l6), .second, .val (.ref c14)] [(.long z13_l6), (.int (1 : Int32)), (.ref c14)])) rfl (by rw [hml]; rfl) (argsL := [(.ref c14), (.int (1 : Int32)), (.long z13_l6)]) (rest := []) (lenOf pd_2 rfl) rfl (by show 2 * 0 + _ ≤ _; exact Nat.le_of_eq rfl) (hb hby at_240) (fun _ _ => ⟨rfl, e16, (by decide : 3 + 0 ≤ _), (by decide : 30 + 0 ≤ _)⟩)
    dsimp only [Pt.U, Pt.locs, Pt.cells, Pt.slots] at X18 l18 y18 z18 st18 hQ18
    subst l18 y18 z18
    obtain ⟨rfl, N18q, e18⟩ := hQ18
    have N18 := Fr.app N16 N18q
    refine Goes.go st18 ?_
    show Goes p e below s _ _ _ (T18.setTop (mkF m 243 #[.val (.int p0), .val (.long q1), .second, .val (.int (Int32.ofNat n)), .val (.ref b1), .val (.ref b11), .val (.long z13_l6), .second, .val (.ref c14)] [(.int (f2 c14 (1 : Int32) z13_l6 (((8 * n + 4) / 5)) (own_R (own_P q1 8) n) 1))]))
    have hc243_19 : ¬ ((f2 c14 (1 : Int32) z13_l6 (((8 * n + 4) / 5)) (own_R (own_P q1 8) n) 1) = (0 : Int32)) := own_at1 hn8 (by rw [hz13_l6]; exact hy8)
    refine Goes.go (fun _ kst => XS.ifNo X18.here hx rfl (hb hby at_243) rfl ((if0 _ _).trans (feq hc243_19).1) kst) ?_
    show Goes p e below s _ _ _ (T18.setTop (mkF m 246 #[.val (.int p0), .val (.long q1), .second, .val (.int (Int32.ofNat n)), .val (.ref b1), .val (.ref b11), .val (.long z13_l6), .second, .val (.ref c14)] []))
    refine Goes.go (fun _ kst => XS.aload X18.here hx rfl (hb hby at_246) rfl rfl  kst) ?_
    show Goes p e below s _ _ _ (T18.setTop (mkF m 248 #[.val (.int p0), .val (.long q1), .second, .val (.int (Int32.ofNat n)), .val (.ref b1), .val (.ref b11), .val (.long z13_l6), .second, .val (.ref c14)] [(.ref c14)]))
    refine Goes.go (fun _ kst => XS.iconst X18.here hx rfl (hb hby at_248) kst) ?_
    show Goes p e below s _ _ _ (T18.setTop (mkF m 249 #[.val (.int p0), .val (.long q1), .second, .val (.int (Int32.ofNat n)), .val (.ref b1), .val (.ref b11), .val (.long z13_l6), .second, .val (.ref c14)] [(.int (2 : Int32)), (.ref c14)]))
    refine Goes.go (fun _ kst => XS.lload X18.here hx rfl (hb hby at_249) rfl  kst) ?_
    show Goes p e below s _ _ _ (T18.setTop (mkF m 251 #[.val (.int p0), .val (.long q1), .second, .val (.int (Int32.ofNat n)), .val (.ref b1), .val (.ref b11), .val (.long z13_l6), .second, .val (.ref c14)] [(.long z13_l6), (.int (2 : Int32)), (.ref c14)]))
    obtain ⟨_, _, ⟨T20, L20, k20, n20⟩, -, X20, ⟨Lc20, hQ20, l20, y20, z20⟩, st20⟩ := Jvm.LawKit.callS X18 hx (y := (⟨"com/example/outpoint/outpoint/Bech32ToFiveBitPinLaw", "at", "([IIJ)Z"⟩ : MethodName)) hown (mvT hZ (hw _ (List.mem_of_getElem? (i := 7) rfl))) (mvT hZ (hw _ (List.mem_of_getElem? (i := 8) rfl))) (mvT hZ (hw _ (List.mem_of_getElem? (i := 9) rfl))) (mvT hZ (hw _ (List.mem_of_getElem? (i := 10) rfl))) (by decide) (backOf (W := 0) (rm2 l Z a0 hw [] c14 (2 : Int32) z13_l6 (((8 * n + 4) / 5)) (own_R (own_P q1 8) n) 2 h14 n0 Z14 A14 rfl (by decide)) hZ (hw _ (List.mem_of_getElem? (i := 10) rfl)) (hw _ (List.mem_of_getElem? (i := 9) rfl)) (by decide) (by decide)) (g := (mkF m 251 #[.val (.int p0), .val (.long q1), .second, .val (.int (Int32.ofNat n)), .val (.ref b1), .val (.ref b11), .val (.long z13_l6), .second, .val (.ref c14)] [(.long z13_l6), (.int (2 : Int32)), (.ref c14)])) rfl (by rw [hml]; rfl) (argsL := [(.ref c14), (.int (2 : Int32)), (.long z13_l6)]) (rest := []) (lenOf pd_2 rfl) rfl (by show 2 * 0 + _ ≤ _; exact Nat.le_of_eq rfl) (hb hby at_251) (fun _ _ => ⟨rfl, e18, (by decide : 3 + 0 ≤ _), (by decide : 30 + 0 ≤ _)⟩)
    dsimp only [Pt.U, Pt.locs, Pt.cells, Pt.slots] at X20 l20 y20 z20 st20 hQ20
    subst l20 y20 z20
    obtain ⟨rfl, N20q, e20⟩ := hQ20
    have N20 := Fr.app N18 N20q
    refine Goes.go st20 ?_
    show Goes p e below s _ _ _ (T20.setTop (mkF m 254 #[.val (.int p0), .val (.long q1), .second, .val (.int (Int32.ofNat n)), .val (.ref b1), .val (.ref b11), .val (.long z13_l6), .second, .val (.ref c14)] [(.int (f2 c14 (2 : Int32) z13_l6 (((8 * n + 4) / 5)) (own_R (own_P q1 8) n) 2))]))
    have hc254_21 : ¬ ((f2 c14 (2 : Int32) z13_l6 (((8 * n + 4) / 5)) (own_R (own_P q1 8) n) 2) = (0 : Int32)) := own_at2 hn8 (by rw [hz13_l6]; exact hy8)
    refine Goes.go (fun _ kst => XS.ifNo X20.here hx rfl (hb hby at_254) rfl ((if0 _ _).trans (feq hc254_21).1) kst) ?_
    show Goes p e below s _ _ _ (T20.setTop (mkF m 257 #[.val (.int p0), .val (.long q1), .second, .val (.int (Int32.ofNat n)), .val (.ref b1), .val (.ref b11), .val (.long z13_l6), .second, .val (.ref c14)] []))
    refine Goes.go (fun _ kst => XS.aload X20.here hx rfl (hb hby at_257) rfl rfl  kst) ?_
    show Goes p e below s _ _ _ (T20.setTop (mkF m 259 #[.val (.int p0), .val (.long q1), .second, .val (.int (Int32.ofNat n)), .val (.ref b1), .val (.ref b11), .val (.long z13_l6), .second, .val (.ref c14)] [(.ref c14)]))
    refine Goes.go (fun _ kst => XS.iconst X20.here hx rfl (hb hby at_259) kst) ?_
    show Goes p e below s _ _ _ (T20.setTop (mkF m 260 #[.val (.int p0), .val (.long q1), .second, .val (.int (Int32.ofNat n)), .val (.ref b1), .val (.ref b11), .val (.long z13_l6), .second, .val (.ref c14)] [(.int (3 : Int32)), (.ref c14)]))
    refine Goes.go (fun _ kst => XS.lload X20.here hx rfl (hb hby at_260) rfl  kst) ?_
    show Goes p e below s _ _ _ (T20.setTop (mkF m 262 #[.val (.int p0), .val (.long q1), .second, .val (.int (Int32.ofNat n)), .val (.ref b1), .val (.ref b11), .val (.long z13_l6), .second, .val (.ref c14)] [(.long z13_l6), (.int (3 : Int32)), (.ref c14)]))
    obtain ⟨_, _, ⟨T22, L22, k22, n22⟩, -, X22, ⟨Lc22, hQ22, l22, y22, z22⟩, st22⟩ := Jvm.LawKit.callS X20 hx (y := (⟨"com/example/outpoint/outpoint/Bech32ToFiveBitPinLaw", "at", "([IIJ)Z"⟩ : MethodName)) hown (mvT hZ (hw _ (List.mem_of_getElem? (i := 7) rfl))) (mvT hZ (hw _ (List.mem_of_getElem? (i := 8) rfl))) (mvT hZ (hw _ (List.mem_of_getElem? (i := 9) rfl))) (mvT hZ (hw _ (List.mem_of_getElem? (i := 10) rfl))) (by decide) (backOf (W := 0) (rm2 l Z a0 hw [] c14 (3 : Int32) z13_l6 (((8 * n + 4) / 5)) (own_R (own_P q1 8) n) 3 h14 n0 Z14 A14 rfl (by decide)) hZ (hw _ (List.mem_of_getElem? (i := 10) rfl)) (hw _ (List.mem_of_getElem? (i := 9) rfl)) (by decide) (by decide)) (g := (mkF m 262 #[.val (.int p0), .val (.long q1), .second, .val (.int (Int32.ofNat n)), .val (.ref b1), .val (.ref b11), .val (.long z13_l6), .second, .val (.ref c14)] [(.long z13_l6), (.int (3 : Int32)), (.ref c14)])) rfl (by rw [hml]; rfl) (argsL := [(.ref c14), (.int (3 : Int32)), (.long z13_l6)]) (rest := []) (lenOf pd_2 rfl) rfl (by show 2 * 0 + _ ≤ _; exact Nat.le_of_eq rfl) (hb hby at_262) (fun _ _ => ⟨rfl, e20, (by decide : 3 + 0 ≤ _), (by decide : 30 + 0 ≤ _)⟩)
    dsimp only [Pt.U, Pt.locs, Pt.cells, Pt.slots] at X22 l22 y22 z22 st22 hQ22
    subst l22 y22 z22
    obtain ⟨rfl, N22q, e22⟩ := hQ22
    have N22 := Fr.app N20 N22q
    refine Goes.go st22 ?_
    show Goes p e below s _ _ _ (T22.setTop (mkF m 265 #[.val (.int p0), .val (.long q1), .second, .val (.int (Int32.ofNat n)), .val (.ref b1), .val (.ref b11), .val (.long z13_l6), .second, .val (.ref c14)] [(.int (f2 c14 (3 : Int32) z13_l6 (((8 * n + 4) / 5)) (own_R (own_P q1 8) n) 3))]))
    have hc265_23 : ¬ ((f2 c14 (3 : Int32) z13_l6 (((8 * n + 4) / 5)) (own_R (own_P q1 8) n) 3) = (0 : Int32)) := own_at3 hn8 (by rw [hz13_l6]; exact hy8)
    refine Goes.go (fun _ kst => XS.ifNo X22.here hx rfl (hb hby at_265) rfl ((if0 _ _).trans (feq hc265_23).1) kst) ?_
    show Goes p e below s _ _ _ (T22.setTop (mkF m 268 #[.val (.int p0), .val (.long q1), .second, .val (.int (Int32.ofNat n)), .val (.ref b1), .val (.ref b11), .val (.long z13_l6), .second, .val (.ref c14)] []))
    refine Goes.go (fun _ kst => XS.aload X22.here hx rfl (hb hby at_268) rfl rfl  kst) ?_
    show Goes p e below s _ _ _ (T22.setTop (mkF m 270 #[.val (.int p0), .val (.long q1), .second, .val (.int (Int32.ofNat n)), .val (.ref b1), .val (.ref b11), .val (.long z13_l6), .second, .val (.ref c14)] [(.ref c14)]))
    refine Goes.go (fun _ kst => XS.iconst X22.here hx rfl (hb hby at_270) kst) ?_
    show Goes p e below s _ _ _ (T22.setTop (mkF m 271 #[.val (.int p0), .val (.long q1), .second, .val (.int (Int32.ofNat n)), .val (.ref b1), .val (.ref b11), .val (.long z13_l6), .second, .val (.ref c14)] [(.int (4 : Int32)), (.ref c14)]))
    refine Goes.go (fun _ kst => XS.lload X22.here hx rfl (hb hby at_271) rfl  kst) ?_
    show Goes p e below s _ _ _ (T22.setTop (mkF m 273 #[.val (.int p0), .val (.long q1), .second, .val (.int (Int32.ofNat n)), .val (.ref b1), .val (.ref b11), .val (.long z13_l6), .second, .val (.ref c14)] [(.long z13_l6), (.int (4 : Int32)), (.ref c14)]))
    obtain ⟨_, _, ⟨T24, L24, k24, n24⟩, -, X24, ⟨Lc24, hQ24, l24, y24, z24⟩, st24⟩ := Jvm.LawKit.callS X22 hx (y := (⟨"com/example/outpoint/outpoint/Bech32ToFiveBitPinLaw", "at", "([IIJ)Z"⟩ : MethodName)) hown (mvT hZ (hw _ (List.mem_of_getElem? (i := 7) rfl))) (mvT hZ (hw _ (List.mem_of_getElem? (i := 8) rfl))) (mvT hZ (hw _ (List.mem_of_getElem? (i := 9) rfl))) (mvT hZ (hw _ (List.mem_of_getElem? (i := 10) rfl))) (by decide) (backOf (W := 0) (rm2 l Z a0 hw [] c14 (4 : Int32) z13_l6 (((8 * n + 4) / 5)) (own_R (own_P q1 8) n) 4 h14 n0 Z14 A14 rfl (by decide)) hZ (hw _ (List.mem_of_getElem? (i := 10) rfl)) (hw _ (List.mem_of_getElem? (i := 9) rfl)) (by decide) (by decide)) (g := (mkF m 273 #[.val (.int p0), .val (.long q1), .second, .val (.int (Int32.ofNat n)), .val (.ref b1), .val (.ref b11), .val (.long z13_l6), .second, .val (.ref c14)] [(.long z13_l6), (.int (4 : Int32)), (.ref c14)])) rfl (by rw [hml]; rfl) (argsL := [(.ref c14), (.int (4 : Int32)), (.long z13_l6)]) (rest := []) (lenOf pd_2 rfl) rfl (by show 2 * 0 + _ ≤ _; exact Nat.le_of_eq rfl) (hb hby at_273) (fun _ _ => ⟨rfl, e22, (by decide : 3 + 0 ≤ _), (by decide : 30 + 0 ≤ _)⟩)
    dsimp only [Pt.U, Pt.locs, Pt.cells, Pt.slots] at X24 l24 y24 z24 st24 hQ24
    subst l24 y24 z24
    obtain ⟨rfl, N24q, e24⟩ := hQ24
    have N24 := Fr.app N22 N24q
    refine Goes.go st24 ?_
    show Goes p e below s _ _ _ (T24.setTop (mkF m 276 #[.val (.int p0), .val (.long q1), .second, .val (.int (Int32.ofNat n)), .val (.ref b1), .val (.ref b11), .val (.long z13_l6), .second, .val (.ref c14)] [(.int (f2 c14 (4 : Int32) z13_l6 (((8 * n + 4) / 5)) (own_R (own_P q1 8) n) 4))]))
    have hc276_25 : ¬ ((f2 c14 (4 : Int32) z13_l6 (((8 * n + 4) / 5)) (own_R (own_P q1 8) n) 4) = (0 : Int32)) := own_at4 hn8 (by rw [hz13_l6]; exact hy8)
    refine Goes.go (fun _ kst => XS.ifNo X24.here hx rfl (hb hby at_276) rfl ((if0 _ _).trans (feq hc276_25).1) kst) ?_
    show Goes p e below s _ _ _ (T24.setTop (mkF m 279 #[.val (.int p0), .val (.long q1), .second, .val (.int (Int32.ofNat n)), .val (.ref b1), .val (.ref b11), .val (.long z13_l6), .second, .val (.ref c14)] []))
    refine Goes.go (fun _ kst => XS.aload X24.here hx rfl (hb hby at_279) rfl rfl  kst) ?_
    show Goes p e below s _ _ _ (T24.setTop (mkF m 281 #[.val (.int p0), .val (.long q1), .second, .val (.int (Int32.ofNat n)), .val (.ref b1), .val (.ref b11), .val (.long z13_l6), .second, .val (.ref c14)] [(.ref c14)]))
    refine Goes.go (fun _ kst => XS.iconst X24.here hx rfl (hb hby at_281) kst) ?_
    show Goes p e below s _ _ _ (T24.setTop (mkF m 282 #[.val (.int p0), .val (.long q1), .second, .val (.int (Int32.ofNat n)), .val (.ref b1), .val (.ref b11), .val (.long z13_l6), .second, .val (.ref c14)] [(.int (5 : Int32)), (.ref c14)]))
    refine Goes.go (fun _ kst => XS.lload X24.here hx rfl (hb hby at_282) rfl  kst) ?_
    show Goes p e below s _ _ _ (T24.setTop (mkF m 284 #[.val (.int p0), .val (.long q1), .second, .val (.int (Int32.ofNat n)), .val (.ref b1), .val (.ref b11), .val (.long z13_l6), .second, .val (.ref c14)] [(.long z13_l6), (.int (5 : Int32)), (.ref c14)]))
    obtain ⟨_, _, ⟨T26, L26, k26, n26⟩, -, X26, ⟨Lc26, hQ26, l26, y26, z26⟩, st26⟩ := Jvm.LawKit.callS X24 hx (y := (⟨"com/example/outpoint/outpoint/Bech32ToFiveBitPinLaw", "at", "([IIJ)Z"⟩ : MethodName)) hown (mvT hZ (hw _ (List.mem_of_getElem? (i := 7) rfl))) (mvT hZ (hw _ (List.mem_of_getElem? (i := 8) rfl))) (mvT hZ (hw _ (List.mem_of_getElem? (i := 9) rfl))) (mvT hZ (hw _ (List.mem_of_getElem? (i := 10) rfl))) (by decide) (backOf (W := 0) (rm2 l Z a0 hw [] c14 (5 : Int32) z13_l6 (((8 * n + 4) / 5)) (own_R (own_P q1 8) n) 5 h14 n0 Z14 A14 rfl (by decide)) hZ (hw _ (List.mem_of_getElem? (i := 10) rfl)) (hw _ (List.mem_of_getElem? (i := 9) rfl)) (by decide) (by decide)) (g := (mkF m 284 #[.val (.int p0), .val (.long q1), .second, .val (.int (Int32.ofNat n)), .val (.ref b1), .val (.ref b11), .val (.long z13_l6), .second, .val (.ref c14)] [(.long z13_l6), (.int (5 : Int32)), (.ref c14)])) rfl (by rw [hml]; rfl) (argsL := [(.ref c14), (.int (5 : Int32)), (.long z13_l6)]) (rest := []) (lenOf pd_2 rfl) rfl (by show 2 * 0 + _ ≤ _; exact Nat.le_of_eq rfl) (hb hby at_284) (fun _ _ => ⟨rfl, e24, (by decide : 3 + 0 ≤ _), (by decide : 30 + 0 ≤ _)⟩)
    dsimp only [Pt.U, Pt.locs, Pt.cells, Pt.slots] at X26 l26 y26 z26 st26 hQ26
    subst l26 y26 z26
    obtain ⟨rfl, N26q, e26⟩ := hQ26
    have N26 := Fr.app N24 N26q
    refine Goes.go st26 ?_
    show Goes p e below s _ _ _ (T26.setTop (mkF m 287 #[.val (.int p0), .val (.long q1), .second, .val (.int (Int32.ofNat n)), .val (.ref b1), .val (.ref b11), .val (.long z13_l6), .second, .val (.ref c14)] [(.int (f2 c14 (5 : Int32) z13_l6 (((8 * n + 4) / 5)) (own_R (own_P q1 8) n) 5))]))
    have hc287_27 : ¬ ((f2 c14 (5 : Int32) z13_l6 (((8 * n + 4) / 5)) (own_R (own_P q1 8) n) 5) = (0 : Int32)) := own_at5 hn8 (by rw [hz13_l6]; exact hy8)
    refine Goes.go (fun _ kst => XS.ifNo X26.here hx rfl (hb hby at_287) rfl ((if0 _ _).trans (feq hc287_27).1) kst) ?_
    show Goes p e below s _ _ _ (T26.setTop (mkF m 290 #[.val (.int p0), .val (.long q1), .second, .val (.int (Int32.ofNat n)), .val (.ref b1), .val (.ref b11), .val (.long z13_l6), .second, .val (.ref c14)] []))
    refine Goes.go (fun _ kst => XS.aload X26.here hx rfl (hb hby at_290) rfl rfl  kst) ?_
    show Goes p e below s _ _ _ (T26.setTop (mkF m 292 #[.val (.int p0), .val (.long q1), .second, .val (.int (Int32.ofNat n)), .val (.ref b1), .val (.ref b11), .val (.long z13_l6), .second, .val (.ref c14)] [(.ref c14)]))
    refine Goes.go (fun _ kst => XS.bipush X26.here hx rfl (hb hby at_292) kst) ?_
    show Goes p e below s _ _ _ (T26.setTop (mkF m 294 #[.val (.int p0), .val (.long q1), .second, .val (.int (Int32.ofNat n)), .val (.ref b1), .val (.ref b11), .val (.long z13_l6), .second, .val (.ref c14)] [(.int (6 : Int32)), (.ref c14)]))
    refine Goes.go (fun _ kst => XS.lload X26.here hx rfl (hb hby at_294) rfl  kst) ?_
    show Goes p e below s _ _ _ (T26.setTop (mkF m 296 #[.val (.int p0), .val (.long q1), .second, .val (.int (Int32.ofNat n)), .val (.ref b1), .val (.ref b11), .val (.long z13_l6), .second, .val (.ref c14)] [(.long z13_l6), (.int (6 : Int32)), (.ref c14)]))
    obtain ⟨_, _, ⟨T28, L28, k28, n28⟩, -, X28, ⟨Lc28, hQ28, l28, y28, z28⟩, st28⟩ := Jvm.LawKit.callS X26 hx (y := (⟨"com/example/outpoint/outpoint/Bech32ToFiveBitPinLaw", "at", "([IIJ)Z"⟩ : MethodName)) hown (mvT hZ (hw _ (List.mem_of_getElem? (i := 7) rfl))) (mvT hZ (hw _ (List.mem_of_getElem? (i := 8) rfl))) (mvT hZ (hw _ (List.mem_of_getElem? (i := 9) rfl))) (mvT hZ (hw _ (List.mem_of_getElem? (i := 10) rfl))) (by decide) (backOf (W := 0) (rm2 l Z a0 hw [] c14 (6 : Int32) z13_l6 (((8 * n + 4) / 5)) (own_R (own_P q1 8) n) 6 h14 n0 Z14 A14 rfl (by decide)) hZ (hw _ (List.mem_of_getElem? (i := 10) rfl)) (hw _ (List.mem_of_getElem? (i := 9) rfl)) (by decide) (by decide)) (g := (mkF m 296 #[.val (.int p0), .val (.long q1), .second, .val (.int (Int32.ofNat n)), .val (.ref b1), .val (.ref b11), .val (.long z13_l6), .second, .val (.ref c14)] [(.long z13_l6), (.int (6 : Int32)), (.ref c14)])) rfl (by rw [hml]; rfl) (argsL := [(.ref c14), (.int (6 : Int32)), (.long z13_l6)]) (rest := []) (lenOf pd_2 rfl) rfl (by show 2 * 0 + _ ≤ _; exact Nat.le_of_eq rfl) (hb hby at_296) (fun _ _ => ⟨rfl, e26, (by decide : 3 + 0 ≤ _), (by decide : 30 + 0 ≤ _)⟩)
    dsimp only [Pt.U, Pt.locs, Pt.cells, Pt.slots] at X28 l28 y28 z28 st28 hQ28
    subst l28 y28 z28
    obtain ⟨rfl, N28q, e28⟩ := hQ28
    have N28 := Fr.app N26 N28q
    refine Goes.go st28 ?_
    show Goes p e below s _ _ _ (T28.setTop (mkF m 299 #[.val (.int p0), .val (.long q1), .second, .val (.int (Int32.ofNat n)), .val (.ref b1), .val (.ref b11), .val (.long z13_l6), .second, .val (.ref c14)] [(.int (f2 c14 (6 : Int32) z13_l6 (((8 * n + 4) / 5)) (own_R (own_P q1 8) n) 6))]))
    have hc299_29 : ¬ ((f2 c14 (6 : Int32) z13_l6 (((8 * n + 4) / 5)) (own_R (own_P q1 8) n) 6) = (0 : Int32)) := own_at6 hn8 (by rw [hz13_l6]; exact hy8)
    refine Goes.go (fun _ kst => XS.ifNo X28.here hx rfl (hb hby at_299) rfl ((if0 _ _).trans (feq hc299_29).1) kst) ?_
    show Goes p e below s _ _ _ (T28.setTop (mkF m 302 #[.val (.int p0), .val (.long q1), .second, .val (.int (Int32.ofNat n)), .val (.ref b1), .val (.ref b11), .val (.long z13_l6), .second, .val (.ref c14)] []))
    refine Goes.go (fun _ kst => XS.aload X28.here hx rfl (hb hby at_302) rfl rfl  kst) ?_
    show Goes p e below s _ _ _ (T28.setTop (mkF m 304 #[.val (.int p0), .val (.long q1), .second, .val (.int (Int32.ofNat n)), .val (.ref b1), .val (.ref b11), .val (.long z13_l6), .second, .val (.ref c14)] [(.ref c14)]))
    refine Goes.go (fun _ kst => XS.bipush X28.here hx rfl (hb hby at_304) kst) ?_
    show Goes p e below s _ _ _ (T28.setTop (mkF m 306 #[.val (.int p0), .val (.long q1), .second, .val (.int (Int32.ofNat n)), .val (.ref b1), .val (.ref b11), .val (.long z13_l6), .second, .val (.ref c14)] [(.int (7 : Int32)), (.ref c14)]))
    refine Goes.go (fun _ kst => XS.lload X28.here hx rfl (hb hby at_306) rfl  kst) ?_
    show Goes p e below s _ _ _ (T28.setTop (mkF m 308 #[.val (.int p0), .val (.long q1), .second, .val (.int (Int32.ofNat n)), .val (.ref b1), .val (.ref b11), .val (.long z13_l6), .second, .val (.ref c14)] [(.long z13_l6), (.int (7 : Int32)), (.ref c14)]))
    obtain ⟨_, _, ⟨T30, L30, k30, n30⟩, -, X30, ⟨Lc30, hQ30, l30, y30, z30⟩, st30⟩ := Jvm.LawKit.callS X28 hx (y := (⟨"com/example/outpoint/outpoint/Bech32ToFiveBitPinLaw", "at", "([IIJ)Z"⟩ : MethodName)) hown (mvT hZ (hw _ (List.mem_of_getElem? (i := 7) rfl))) (mvT hZ (hw _ (List.mem_of_getElem? (i := 8) rfl))) (mvT hZ (hw _ (List.mem_of_getElem? (i := 9) rfl))) (mvT hZ (hw _ (List.mem_of_getElem? (i := 10) rfl))) (by decide) (backOf (W := 0) (rm2 l Z a0 hw [] c14 (7 : Int32) z13_l6 (((8 * n + 4) / 5)) (own_R (own_P q1 8) n) 7 h14 n0 Z14 A14 rfl (by decide)) hZ (hw _ (List.mem_of_getElem? (i := 10) rfl)) (hw _ (List.mem_of_getElem? (i := 9) rfl)) (by decide) (by decide)) (g := (mkF m 308 #[.val (.int p0), .val (.long q1), .second, .val (.int (Int32.ofNat n)), .val (.ref b1), .val (.ref b11), .val (.long z13_l6), .second, .val (.ref c14)] [(.long z13_l6), (.int (7 : Int32)), (.ref c14)])) rfl (by rw [hml]; rfl) (argsL := [(.ref c14), (.int (7 : Int32)), (.long z13_l6)]) (rest := []) (lenOf pd_2 rfl) rfl (by show 2 * 0 + _ ≤ _; exact Nat.le_of_eq rfl) (hb hby at_308) (fun _ _ => ⟨rfl, e28, (by decide : 3 + 0 ≤ _), (by decide : 30 + 0 ≤ _)⟩)
    dsimp only [Pt.U, Pt.locs, Pt.cells, Pt.slots] at X30 l30 y30 z30 st30 hQ30
    subst l30 y30 z30
    obtain ⟨rfl, N30q, e30⟩ := hQ30
    have N30 := Fr.app N28 N30q
    refine Goes.go st30 ?_
    show Goes p e below s _ _ _ (T30.setTop (mkF m 311 #[.val (.int p0), .val (.long q1), .second, .val (.int (Int32.ofNat n)), .val (.ref b1), .val (.ref b11), .val (.long z13_l6), .second, .val (.ref c14)] [(.int (f2 c14 (7 : Int32) z13_l6 (((8 * n + 4) / 5)) (own_R (own_P q1 8) n) 7))]))
    have hc311_31 : ¬ ((f2 c14 (7 : Int32) z13_l6 (((8 * n + 4) / 5)) (own_R (own_P q1 8) n) 7) = (0 : Int32)) := own_at7 hn8 (by rw [hz13_l6]; exact hy8)
    refine Goes.go (fun _ kst => XS.ifNo X30.here hx rfl (hb hby at_311) rfl ((if0 _ _).trans (feq hc311_31).1) kst) ?_
    show Goes p e below s _ _ _ (T30.setTop (mkF m 314 #[.val (.int p0), .val (.long q1), .second, .val (.int (Int32.ofNat n)), .val (.ref b1), .val (.ref b11), .val (.long z13_l6), .second, .val (.ref c14)] []))
    refine Goes.go (fun _ kst => XS.aload X30.here hx rfl (hb hby at_314) rfl rfl  kst) ?_
    show Goes p e below s _ _ _ (T30.setTop (mkF m 316 #[.val (.int p0), .val (.long q1), .second, .val (.int (Int32.ofNat n)), .val (.ref b1), .val (.ref b11), .val (.long z13_l6), .second, .val (.ref c14)] [(.ref c14)]))
    refine Goes.go (fun _ kst => XS.bipush X30.here hx rfl (hb hby at_316) kst) ?_
    show Goes p e below s _ _ _ (T30.setTop (mkF m 318 #[.val (.int p0), .val (.long q1), .second, .val (.int (Int32.ofNat n)), .val (.ref b1), .val (.ref b11), .val (.long z13_l6), .second, .val (.ref c14)] [(.int (8 : Int32)), (.ref c14)]))
    refine Goes.go (fun _ kst => XS.lload X30.here hx rfl (hb hby at_318) rfl  kst) ?_
    show Goes p e below s _ _ _ (T30.setTop (mkF m 320 #[.val (.int p0), .val (.long q1), .second, .val (.int (Int32.ofNat n)), .val (.ref b1), .val (.ref b11), .val (.long z13_l6), .second, .val (.ref c14)] [(.long z13_l6), (.int (8 : Int32)), (.ref c14)]))
    obtain ⟨_, _, ⟨T32, L32, k32, n32⟩, -, X32, ⟨Lc32, hQ32, l32, y32, z32⟩, st32⟩ := Jvm.LawKit.callS X30 hx (y := (⟨"com/example/outpoint/outpoint/Bech32ToFiveBitPinLaw", "at", "([IIJ)Z"⟩ : MethodName)) hown (mvT hZ (hw _ (List.mem_of_getElem? (i := 7) rfl))) (mvT hZ (hw _ (List.mem_of_getElem? (i := 8) rfl))) (mvT hZ (hw _ (List.mem_of_getElem? (i := 9) rfl))) (mvT hZ (hw _ (List.mem_of_getElem? (i := 10) rfl))) (by decide) (backOf (W := 0) (rm2 l Z a0 hw [] c14 (8 : Int32) z13_l6 (((8 * n + 4) / 5)) (own_R (own_P q1 8) n) 8 h14 n0 Z14 A14 rfl (by decide)) hZ (hw _ (List.mem_of_getElem? (i := 10) rfl)) (hw _ (List.mem_of_getElem? (i := 9) rfl)) (by decide) (by decide)) (g := (mkF m 320 #[.val (.int p0), .val (.long q1), .second, .val (.int (Int32.ofNat n)), .val (.ref b1), .val (.ref b11), .val (.long z13_l6), .second, .val (.ref c14)] [(.long z13_l6), (.int (8 : Int32)), (.ref c14)])) rfl (by rw [hml]; rfl) (argsL := [(.ref c14), (.int (8 : Int32)), (.long z13_l6)]) (rest := []) (lenOf pd_2 rfl) rfl (by show 2 * 0 + _ ≤ _; exact Nat.le_of_eq rfl) (hb hby at_320) (fun _ _ => ⟨rfl, e30, (by decide : 3 + 0 ≤ _), (by decide : 30 + 0 ≤ _)⟩)
    dsimp only [Pt.U, Pt.locs, Pt.cells, Pt.slots] at X32 l32 y32 z32 st32 hQ32
    subst l32 y32 z32
    obtain ⟨rfl, N32q, e32⟩ := hQ32
    have N32 := Fr.app N30 N32q
    refine Goes.go st32 ?_
    show Goes p e below s _ _ _ (T32.setTop (mkF m 323 #[.val (.int p0), .val (.long q1), .second, .val (.int (Int32.ofNat n)), .val (.ref b1), .val (.ref b11), .val (.long z13_l6), .second, .val (.ref c14)] [(.int (f2 c14 (8 : Int32) z13_l6 (((8 * n + 4) / 5)) (own_R (own_P q1 8) n) 8))]))
    have hc323_33 : ¬ ((f2 c14 (8 : Int32) z13_l6 (((8 * n + 4) / 5)) (own_R (own_P q1 8) n) 8) = (0 : Int32)) := own_at8 hn8 (by rw [hz13_l6]; exact hy8)
    refine Goes.go (fun _ kst => XS.ifNo X32.here hx rfl (hb hby at_323) rfl ((if0 _ _).trans (feq hc323_33).1) kst) ?_
    show Goes p e below s _ _ _ (T32.setTop (mkF m 326 #[.val (.int p0), .val (.long q1), .second, .val (.int (Int32.ofNat n)), .val (.ref b1), .val (.ref b11), .val (.long z13_l6), .second, .val (.ref c14)] []))
    refine Goes.go (fun _ kst => XS.aload X32.here hx rfl (hb hby at_326) rfl rfl  kst) ?_
    show Goes p e below s _ _ _ (T32.setTop (mkF m 328 #[.val (.int p0), .val (.long q1), .second, .val (.int (Int32.ofNat n)), .val (.ref b1), .val (.ref b11), .val (.long z13_l6), .second, .val (.ref c14)] [(.ref c14)]))
    refine Goes.go (fun _ kst => XS.bipush X32.here hx rfl (hb hby at_328) kst) ?_
    show Goes p e below s _ _ _ (T32.setTop (mkF m 330 #[.val (.int p0), .val (.long q1), .second, .val (.int (Int32.ofNat n)), .val (.ref b1), .val (.ref b11), .val (.long z13_l6), .second, .val (.ref c14)] [(.int (9 : Int32)), (.ref c14)]))
    refine Goes.go (fun _ kst => XS.lload X32.here hx rfl (hb hby at_330) rfl  kst) ?_
    show Goes p e below s _ _ _ (T32.setTop (mkF m 332 #[.val (.int p0), .val (.long q1), .second, .val (.int (Int32.ofNat n)), .val (.ref b1), .val (.ref b11), .val (.long z13_l6), .second, .val (.ref c14)] [(.long z13_l6), (.int (9 : Int32)), (.ref c14)]))
    obtain ⟨_, _, ⟨T34, L34, k34, n34⟩, -, X34, ⟨Lc34, hQ34, l34, y34, z34⟩, st34⟩ := Jvm.LawKit.callS X32 hx (y := (⟨"com/example/outpoint/outpoint/Bech32ToFiveBitPinLaw", "at", "([IIJ)Z"⟩ : MethodName)) hown (mvT hZ (hw _ (List.mem_of_getElem? (i := 7) rfl))) (mvT hZ (hw _ (List.mem_of_getElem? (i := 8) rfl))) (mvT hZ (hw _ (List.mem_of_getElem? (i := 9) rfl))) (mvT hZ (hw _ (List.mem_of_getElem? (i := 10) rfl))) (by decide) (backOf (W := 0) (rm2 l Z a0 hw [] c14 (9 : Int32) z13_l6 (((8 * n + 4) / 5)) (own_R (own_P q1 8) n) 9 h14 n0 Z14 A14 rfl (by decide)) hZ (hw _ (List.mem_of_getElem? (i := 10) rfl)) (hw _ (List.mem_of_getElem? (i := 9) rfl)) (by decide) (by decide)) (g := (mkF m 332 #[.val (.int p0), .val (.long q1), .second, .val (.int (Int32.ofNat n)), .val (.ref b1), .val (.ref b11), .val (.long z13_l6), .second, .val (.ref c14)] [(.long z13_l6), (.int (9 : Int32)), (.ref c14)])) rfl (by rw [hml]; rfl) (argsL := [(.ref c14), (.int (9 : Int32)), (.long z13_l6)]) (rest := []) (lenOf pd_2 rfl) rfl (by show 2 * 0 + _ ≤ _; exact Nat.le_of_eq rfl) (hb hby at_332) (fun _ _ => ⟨rfl, e32, (by decide : 3 + 0 ≤ _), (by decide : 30 + 0 ≤ _)⟩)
    dsimp only [Pt.U, Pt.locs, Pt.cells, Pt.slots] at X34 l34 y34 z34 st34 hQ34
    subst l34 y34 z34
    obtain ⟨rfl, N34q, e34⟩ := hQ34
    have N34 := Fr.app N32 N34q
    refine Goes.go st34 ?_
    show Goes p e below s _ _ _ (T34.setTop (mkF m 335 #[.val (.int p0), .val (.long q1), .second, .val (.int (Int32.ofNat n)), .val (.ref b1), .val (.ref b11), .val (.long z13_l6), .second, .val (.ref c14)] [(.int (f2 c14 (9 : Int32) z13_l6 (((8 * n + 4) / 5)) (own_R (own_P q1 8) n) 9))]))
    have hc335_35 : ¬ ((f2 c14 (9 : Int32) z13_l6 (((8 * n + 4) / 5)) (own_R (own_P q1 8) n) 9) = (0 : Int32)) := own_at9 hn8 (by rw [hz13_l6]; exact hy8)
    refine Goes.go (fun _ kst => XS.ifNo X34.here hx rfl (hb hby at_335) rfl ((if0 _ _).trans (feq hc335_35).1) kst) ?_
    show Goes p e below s _ _ _ (T34.setTop (mkF m 338 #[.val (.int p0), .val (.long q1), .second, .val (.int (Int32.ofNat n)), .val (.ref b1), .val (.ref b11), .val (.long z13_l6), .second, .val (.ref c14)] []))
    refine Goes.go (fun _ kst => XS.aload X34.here hx rfl (hb hby at_338) rfl rfl  kst) ?_
    show Goes p e below s _ _ _ (T34.setTop (mkF m 340 #[.val (.int p0), .val (.long q1), .second, .val (.int (Int32.ofNat n)), .val (.ref b1), .val (.ref b11), .val (.long z13_l6), .second, .val (.ref c14)] [(.ref c14)]))
    refine Goes.go (fun _ kst => XS.bipush X34.here hx rfl (hb hby at_340) kst) ?_
    show Goes p e below s _ _ _ (T34.setTop (mkF m 342 #[.val (.int p0), .val (.long q1), .second, .val (.int (Int32.ofNat n)), .val (.ref b1), .val (.ref b11), .val (.long z13_l6), .second, .val (.ref c14)] [(.int (10 : Int32)), (.ref c14)]))
    refine Goes.go (fun _ kst => XS.lload X34.here hx rfl (hb hby at_342) rfl  kst) ?_
    show Goes p e below s _ _ _ (T34.setTop (mkF m 344 #[.val (.int p0), .val (.long q1), .second, .val (.int (Int32.ofNat n)), .val (.ref b1), .val (.ref b11), .val (.long z13_l6), .second, .val (.ref c14)] [(.long z13_l6), (.int (10 : Int32)), (.ref c14)]))
    obtain ⟨_, _, ⟨T36, L36, k36, n36⟩, -, X36, ⟨Lc36, hQ36, l36, y36, z36⟩, st36⟩ := Jvm.LawKit.callS X34 hx (y := (⟨"com/example/outpoint/outpoint/Bech32ToFiveBitPinLaw", "at", "([IIJ)Z"⟩ : MethodName)) hown (mvT hZ (hw _ (List.mem_of_getElem? (i := 7) rfl))) (mvT hZ (hw _ (List.mem_of_getElem? (i := 8) rfl))) (mvT hZ (hw _ (List.mem_of_getElem? (i := 9) rfl))) (mvT hZ (hw _ (List.mem_of_getElem? (i := 10) rfl))) (by decide) (backOf (W := 0) (rm2 l Z a0 hw [] c14 (10 : Int32) z13_l6 (((8 * n + 4) / 5)) (own_R (own_P q1 8) n) 10 h14 n0 Z14 A14 rfl (by decide)) hZ (hw _ (List.mem_of_getElem? (i := 10) rfl)) (hw _ (List.mem_of_getElem? (i := 9) rfl)) (by decide) (by decide)) (g := (mkF m 344 #[.val (.int p0), .val (.long q1), .second, .val (.int (Int32.ofNat n)), .val (.ref b1), .val (.ref b11), .val (.long z13_l6), .second, .val (.ref c14)] [(.long z13_l6), (.int (10 : Int32)), (.ref c14)])) rfl (by rw [hml]; rfl) (argsL := [(.ref c14), (.int (10 : Int32)), (.long z13_l6)]) (rest := []) (lenOf pd_2 rfl) rfl (by show 2 * 0 + _ ≤ _; exact Nat.le_of_eq rfl) (hb hby at_344) (fun _ _ => ⟨rfl, e34, (by decide : 3 + 0 ≤ _), (by decide : 30 + 0 ≤ _)⟩)
    dsimp only [Pt.U, Pt.locs, Pt.cells, Pt.slots] at X36 l36 y36 z36 st36 hQ36
    subst l36 y36 z36
    obtain ⟨rfl, N36q, e36⟩ := hQ36
    have N36 := Fr.app N34 N36q
    refine Goes.go st36 ?_
    show Goes p e below s _ _ _ (T36.setTop (mkF m 347 #[.val (.int p0), .val (.long q1), .second, .val (.int (Int32.ofNat n)), .val (.ref b1), .val (.ref b11), .val (.long z13_l6), .second, .val (.ref c14)] [(.int (f2 c14 (10 : Int32) z13_l6 (((8 * n + 4) / 5)) (own_R (own_P q1 8) n) 10))]))
    have hc347_37 : ¬ ((f2 c14 (10 : Int32) z13_l6 (((8 * n + 4) / 5)) (own_R (own_P q1 8) n) 10) = (0 : Int32)) := own_at10 hn8 (by rw [hz13_l6]; exact hy8)
    refine Goes.go (fun _ kst => XS.ifNo X36.here hx rfl (hb hby at_347) rfl ((if0 _ _).trans (feq hc347_37).1) kst) ?_
    show Goes p e below s _ _ _ (T36.setTop (mkF m 350 #[.val (.int p0), .val (.long q1), .second, .val (.int (Int32.ofNat n)), .val (.ref b1), .val (.ref b11), .val (.long z13_l6), .second, .val (.ref c14)] []))
    refine Goes.go (fun _ kst => XS.aload X36.here hx rfl (hb hby at_350) rfl rfl  kst) ?_
    show Goes p e below s _ _ _ (T36.setTop (mkF m 352 #[.val (.int p0), .val (.long q1), .second, .val (.int (Int32.ofNat n)), .val (.ref b1), .val (.ref b11), .val (.long z13_l6), .second, .val (.ref c14)] [(.ref c14)]))
    refine Goes.go (fun _ kst => XS.bipush X36.here hx rfl (hb hby at_352) kst) ?_
    show Goes p e below s _ _ _ (T36.setTop (mkF m 354 #[.val (.int p0), .val (.long q1), .second, .val (.int (Int32.ofNat n)), .val (.ref b1), .val (.ref b11), .val (.long z13_l6), .second, .val (.ref c14)] [(.int (11 : Int32)), (.ref c14)]))
    refine Goes.go (fun _ kst => XS.lload X36.here hx rfl (hb hby at_354) rfl  kst) ?_
    show Goes p e below s _ _ _ (T36.setTop (mkF m 356 #[.val (.int p0), .val (.long q1), .second, .val (.int (Int32.ofNat n)), .val (.ref b1), .val (.ref b11), .val (.long z13_l6), .second, .val (.ref c14)] [(.long z13_l6), (.int (11 : Int32)), (.ref c14)]))
    obtain ⟨_, _, ⟨T38, L38, k38, n38⟩, -, X38, ⟨Lc38, hQ38, l38, y38, z38⟩, st38⟩ := Jvm.LawKit.callS X36 hx (y := (⟨"com/example/outpoint/outpoint/Bech32ToFiveBitPinLaw", "at", "([IIJ)Z"⟩ : MethodName)) hown (mvT hZ (hw _ (List.mem_of_getElem? (i := 7) rfl))) (mvT hZ (hw _ (List.mem_of_getElem? (i := 8) rfl))) (mvT hZ (hw _ (List.mem_of_getElem? (i := 9) rfl))) (mvT hZ (hw _ (List.mem_of_getElem? (i := 10) rfl))) (by decide) (backOf (W := 0) (rm2 l Z a0 hw [] c14 (11 : Int32) z13_l6 (((8 * n + 4) / 5)) (own_R (own_P q1 8) n) 11 h14 n0 Z14 A14 rfl (by decide)) hZ (hw _ (List.mem_of_getElem? (i := 10) rfl)) (hw _ (List.mem_of_getElem? (i := 9) rfl)) (by decide) (by decide)) (g := (mkF m 356 #[.val (.int p0), .val (.long q1), .second, .val (.int (Int32.ofNat n)), .val (.ref b1), .val (.ref b11), .val (.long z13_l6), .second, .val (.ref c14)] [(.long z13_l6), (.int (11 : Int32)), (.ref c14)])) rfl (by rw [hml]; rfl) (argsL := [(.ref c14), (.int (11 : Int32)), (.long z13_l6)]) (rest := []) (lenOf pd_2 rfl) rfl (by show 2 * 0 + _ ≤ _; exact Nat.le_of_eq rfl) (hb hby at_356) (fun _ _ => ⟨rfl, e36, (by decide : 3 + 0 ≤ _), (by decide : 30 + 0 ≤ _)⟩)
    dsimp only [Pt.U, Pt.locs, Pt.cells, Pt.slots] at X38 l38 y38 z38 st38 hQ38
    subst l38 y38 z38
    obtain ⟨rfl, N38q, e38⟩ := hQ38
    have N38 := Fr.app N36 N38q
    refine Goes.go st38 ?_
    show Goes p e below s _ _ _ (T38.setTop (mkF m 359 #[.val (.int p0), .val (.long q1), .second, .val (.int (Int32.ofNat n)), .val (.ref b1), .val (.ref b11), .val (.long z13_l6), .second, .val (.ref c14)] [(.int (f2 c14 (11 : Int32) z13_l6 (((8 * n + 4) / 5)) (own_R (own_P q1 8) n) 11))]))
    have hc359_39 : ¬ ((f2 c14 (11 : Int32) z13_l6 (((8 * n + 4) / 5)) (own_R (own_P q1 8) n) 11) = (0 : Int32)) := own_at11 hn8 (by rw [hz13_l6]; exact hy8)
    refine Goes.go (fun _ kst => XS.ifNo X38.here hx rfl (hb hby at_359) rfl ((if0 _ _).trans (feq hc359_39).1) kst) ?_
    show Goes p e below s _ _ _ (T38.setTop (mkF m 362 #[.val (.int p0), .val (.long q1), .second, .val (.int (Int32.ofNat n)), .val (.ref b1), .val (.ref b11), .val (.long z13_l6), .second, .val (.ref c14)] []))
    refine Goes.go (fun _ kst => XS.aload X38.here hx rfl (hb hby at_362) rfl rfl  kst) ?_
    show Goes p e below s _ _ _ (T38.setTop (mkF m 364 #[.val (.int p0), .val (.long q1), .second, .val (.int (Int32.ofNat n)), .val (.ref b1), .val (.ref b11), .val (.long z13_l6), .second, .val (.ref c14)] [(.ref c14)]))
    refine Goes.go (fun _ kst => XS.bipush X38.here hx rfl (hb hby at_364) kst) ?_
    show Goes p e below s _ _ _ (T38.setTop (mkF m 366 #[.val (.int p0), .val (.long q1), .second, .val (.int (Int32.ofNat n)), .val (.ref b1), .val (.ref b11), .val (.long z13_l6), .second, .val (.ref c14)] [(.int (12 : Int32)), (.ref c14)]))
    refine Goes.go (fun _ kst => XS.lload X38.here hx rfl (hb hby at_366) rfl  kst) ?_
    show Goes p e below s _ _ _ (T38.setTop (mkF m 368 #[.val (.int p0), .val (.long q1), .second, .val (.int (Int32.ofNat n)), .val (.ref b1), .val (.ref b11), .val (.long z13_l6), .second, .val (.ref c14)] [(.long z13_l6), (.int (12 : Int32)), (.ref c14)]))
    obtain ⟨_, _, ⟨T40, L40, k40, n40⟩, -, X40, ⟨Lc40, hQ40, l40, y40, z40⟩, st40⟩ := Jvm.LawKit.callS X38 hx (y := (⟨"com/example/outpoint/outpoint/Bech32ToFiveBitPinLaw", "at", "([IIJ)Z"⟩ : MethodName)) hown (mvT hZ (hw _ (List.mem_of_getElem? (i := 7) rfl))) (mvT hZ (hw _ (List.mem_of_getElem? (i := 8) rfl))) (mvT hZ (hw _ (List.mem_of_getElem? (i := 9) rfl))) (mvT hZ (hw _ (List.mem_of_getElem? (i := 10) rfl))) (by decide) (backOf (W := 0) (rm2 l Z a0 hw [] c14 (12 : Int32) z13_l6 (((8 * n + 4) / 5)) (own_R (own_P q1 8) n) 12 h14 n0 Z14 A14 rfl (by decide)) hZ (hw _ (List.mem_of_getElem? (i := 10) rfl)) (hw _ (List.mem_of_getElem? (i := 9) rfl)) (by decide) (by decide)) (g := (mkF m 368 #[.val (.int p0), .val (.long q1), .second, .val (.int (Int32.ofNat n)), .val (.ref b1), .val (.ref b11), .val (.long z13_l6), .second, .val (.ref c14)] [(.long z13_l6), (.int (12 : Int32)), (.ref c14)])) rfl (by rw [hml]; rfl) (argsL := [(.ref c14), (.int (12 : Int32)), (.long z13_l6)]) (rest := []) (lenOf pd_2 rfl) rfl (by show 2 * 0 + _ ≤ _; exact Nat.le_of_eq rfl) (hb hby at_368) (fun _ _ => ⟨rfl, e38, (by decide : 3 + 0 ≤ _), (by decide : 30 + 0 ≤ _)⟩)
    dsimp only [Pt.U, Pt.locs, Pt.cells, Pt.slots] at X40 l40 y40 z40 st40 hQ40
    subst l40 y40 z40
    obtain ⟨rfl, N40q, e40⟩ := hQ40
    have N40 := Fr.app N38 N40q
    refine Goes.go st40 ?_
    show Goes p e below s _ _ _ (T40.setTop (mkF m 371 #[.val (.int p0), .val (.long q1), .second, .val (.int (Int32.ofNat n)), .val (.ref b1), .val (.ref b11), .val (.long z13_l6), .second, .val (.ref c14)] [(.int (f2 c14 (12 : Int32) z13_l6 (((8 * n + 4) / 5)) (own_R (own_P q1 8) n) 12))]))
    have hc371_41 : ¬ ((f2 c14 (12 : Int32) z13_l6 (((8 * n + 4) / 5)) (own_R (own_P q1 8) n) 12) = (0 : Int32)) := own_at12 hn8 (by rw [hz13_l6]; exact hy8)
    refine Goes.go (fun _ kst => XS.ifNo X40.here hx rfl (hb hby at_371) rfl ((if0 _ _).trans (feq hc371_41).1) kst) ?_
    show Goes p e below s _ _ _ (T40.setTop (mkF m 374 #[.val (.int p0), .val (.long q1), .second, .val (.int (Int32.ofNat n)), .val (.ref b1), .val (.ref b11), .val (.long z13_l6), .second, .val (.ref c14)] []))
    refine Goes.go (fun _ kst => XS.iconst X40.here hx rfl (hb hby at_374) kst) ?_
    show Goes p e below s _ _ _ (T40.setTop (mkF m 375 #[.val (.int p0), .val (.long q1), .second, .val (.int (Int32.ofNat n)), .val (.ref b1), .val (.ref b11), .val (.long z13_l6), .second, .val (.ref c14)] [(.int (1 : Int32))]))
    refine Goes.go (fun _ kst => XS.goto X40.here hx rfl (pc0 := 375) (pc' := 379) rfl (hb hby at_375) (by decide) (by decide) kst) ?_
    show Goes p e below s _ _ _ (T40.setTop (mkF m 379 #[.val (.int p0), .val (.long q1), .second, .val (.int (Int32.ofNat n)), .val (.ref b1), .val (.ref b11), .val (.long z13_l6), .second, .val (.ref c14)] [(.int (1 : Int32))]))
    refine Goes.retN .boolean X40 hx hlk Bd.returns (by simp) (hb hby at_379) ?_ (by decide) (by decide)
    exact ⟨rfl, N40⟩
  have J169 : ∀ {TJ : State} {lj : List Loc} {hJ : Heap} (XJ : Stand p l e room_1 s m #[(.int p0), (.long q1)] below meth c TJ lj (0 + 1 + 1) (0 + 9 + 8)) (eJ : TJ.heap = hJ) (NJ : Fr n0 lj) (ZJ : n0 ≤ hJ.size) (KJ : Keep h0 hJ []) (AL : IA Z hJ b1 .int 9 lens) (AB : IA Z hJ b11 .byte n (own_P q1 7)), Goes p e below s (Q0 n0) room_1.cells room_1.slots (TJ.setTop (mkF m 169 #[.val (.int p0), .val (.long q1), .second, .val (.int (Int32.ofNat n)), .val (.ref b1), .val (.ref b11), .unset, .unset, .unset] [])) := by
    intro TJ lj hJ XJ eJ NJ ZJ KJ AL AB
    show Goes p e below s _ _ _ (TJ.setTop (mkF m 169 #[.val (.int p0), .val (.long q1), .second, .val (.int (Int32.ofNat n)), .val (.ref b1), .val (.ref b11), .unset, .unset, .unset] []))
    refine Goes.go (fun _ kst => XS.iloadN XJ.here hx rfl (hb hby at_169) rfl  kst) ?_
    show Goes p e below s _ _ _ (TJ.setTop (mkF m 170 #[.val (.int p0), .val (.long q1), .second, .val (.int (Int32.ofNat n)), .val (.ref b1), .val (.ref b11), .unset, .unset, .unset] [(.int (Int32.ofNat n))]))
    refine Goes.go (fun _ kst => XS.bipush XJ.here hx rfl (hb hby at_170) kst) ?_
    show Goes p e below s _ _ _ (TJ.setTop (mkF m 172 #[.val (.int p0), .val (.long q1), .second, .val (.int (Int32.ofNat n)), .val (.ref b1), .val (.ref b11), .unset, .unset, .unset] [(.int (7 : Int32)), (.int (Int32.ofNat n))]))
    by_cases hc172_42 : (7 : Int32) < (Int32.ofNat n)
    · skip
      refine Goes.go (fun _ kst => XS.icmpNo XJ.here hx rfl (hb hby at_172) rfl (tlt hc172_42).2.2.2 kst) ?_
      show Goes p e below s _ _ _ (TJ.setTop (mkF m 175 #[.val (.int p0), .val (.long q1), .second, .val (.int (Int32.ofNat n)), .val (.ref b1), .val (.ref b11), .unset, .unset, .unset] []))
      refine Goes.go (fun _ kst => XS.aload XJ.here hx rfl (hb hby at_175) rfl rfl  kst) ?_
      show Goes p e below s _ _ _ (TJ.setTop (mkF m 177 #[.val (.int p0), .val (.long q1), .second, .val (.int (Int32.ofNat n)), .val (.ref b1), .val (.ref b11), .unset, .unset, .unset] [(.ref b11)]))
      refine Goes.go (fun _ kst => XS.bipush XJ.here hx rfl (hb hby at_177) kst) ?_
      show Goes p e below s _ _ _ (TJ.setTop (mkF m 179 #[.val (.int p0), .val (.long q1), .second, .val (.int (Int32.ofNat n)), .val (.ref b1), .val (.ref b11), .unset, .unset, .unset] [(.int (7 : Int32)), (.ref b11)]))
      refine Goes.go (fun _ kst => XS.lloadN XJ.here hx rfl (hb hby at_179) rfl  kst) ?_
      show Goes p e below s _ _ _ (TJ.setTop (mkF m 180 #[.val (.int p0), .val (.long q1), .second, .val (.int (Int32.ofNat n)), .val (.ref b1), .val (.ref b11), .unset, .unset, .unset] [(.long q1), (.int (7 : Int32)), (.ref b11)]))
      refine Goes.go (fun _ kst => XS.l2i XJ.here hx rfl (hb hby at_180) rfl kst) ?_
      show Goes p e below s _ _ _ (TJ.setTop (mkF m 181 #[.val (.int p0), .val (.long q1), .second, .val (.int (Int32.ofNat n)), .val (.ref b1), .val (.ref b11), .unset, .unset, .unset] [(.int (q1.toInt32)), (.int (7 : Int32)), (.ref b11)]))
      refine Goes.go (fun _ kst => XS.i2b XJ.here hx rfl (hb hby at_181) rfl kst) ?_
      show Goes p e below s _ _ _ (TJ.setTop (mkF m 182 #[.val (.int p0), .val (.long q1), .second, .val (.int (Int32.ofNat n)), .val (.ref b1), .val (.ref b11), .unset, .unset, .unset] [(.int ((q1.toInt32).toInt8.toInt32)), (.int (7 : Int32)), (.ref b11)]))
      obtain ⟨T43, h43, X43, e43, W43, A43, st43⟩ := own_stB XJ hx hZ eJ AB (i := 7) rfl ((own_lt (i := 7) (by decide) (by omega)).mp hc172_42) (g := (mkF m 182 #[.val (.int p0), .val (.long q1), .second, .val (.int (Int32.ofNat n)), .val (.ref b1), .val (.ref b11), .unset, .unset, .unset] [(.int ((q1.toInt32).toInt8.toInt32)), (.int (7 : Int32)), (.ref b11)])) rfl rfl (hb hby at_182)
      have N43 := Fr.snoc X43 NJ gb11
      have Z43 := Nat.le_trans ZJ (Keep.of_wr W43).1
      have K43 := Keep.wr KJ W43 (Or.inr sb11)
      refine Goes.go st43 ?_
      exact J183 X43 e43 N43 Z43 K43 (AL.other W43 ne45) ((A43).as (fun i hi => own_Pst rfl i))
    · skip
      refine Goes.go (fun _ kst => XS.icmpYes XJ.here hx rfl (pc0 := 172) (pc' := 183) rfl (hb hby at_172) rfl (flt hc172_42).2.2.2 (by decide) (by decide) kst) ?_
      have own_le : (¬ ((7 : Int32) < (Int32.ofNat n))) → n ≤ 7 := fun q => by have := mt (own_lt (i := 7) (n := n) (by decide) (by omega)).mpr q; omega
      exact J183 XJ eJ NJ ZJ KJ AL ((AB).as (fun i hi => own_Psk (own_le hc172_42) hi))
  have J152 : ∀ {TJ : State} {lj : List Loc} {hJ : Heap} (XJ : Stand p l e room_1 s m #[(.int p0), (.long q1)] below meth c TJ lj (0 + 1 + 1) (0 + 9 + 8)) (eJ : TJ.heap = hJ) (NJ : Fr n0 lj) (ZJ : n0 ≤ hJ.size) (KJ : Keep h0 hJ []) (AL : IA Z hJ b1 .int 9 lens) (AB : IA Z hJ b11 .byte n (own_P q1 6)), Goes p e below s (Q0 n0) room_1.cells room_1.slots (TJ.setTop (mkF m 152 #[.val (.int p0), .val (.long q1), .second, .val (.int (Int32.ofNat n)), .val (.ref b1), .val (.ref b11), .unset, .unset, .unset] [])) := by
    intro TJ lj hJ XJ eJ NJ ZJ KJ AL AB
    show Goes p e below s _ _ _ (TJ.setTop (mkF m 152 #[.val (.int p0), .val (.long q1), .second, .val (.int (Int32.ofNat n)), .val (.ref b1), .val (.ref b11), .unset, .unset, .unset] []))
    refine Goes.go (fun _ kst => XS.iloadN XJ.here hx rfl (hb hby at_152) rfl  kst) ?_
    show Goes p e below s _ _ _ (TJ.setTop (mkF m 153 #[.val (.int p0), .val (.long q1), .second, .val (.int (Int32.ofNat n)), .val (.ref b1), .val (.ref b11), .unset, .unset, .unset] [(.int (Int32.ofNat n))]))
    refine Goes.go (fun _ kst => XS.bipush XJ.here hx rfl (hb hby at_153) kst) ?_
    show Goes p e below s _ _ _ (TJ.setTop (mkF m 155 #[.val (.int p0), .val (.long q1), .second, .val (.int (Int32.ofNat n)), .val (.ref b1), .val (.ref b11), .unset, .unset, .unset] [(.int (6 : Int32)), (.int (Int32.ofNat n))]))
    by_cases hc155_44 : (6 : Int32) < (Int32.ofNat n)
    · skip
      refine Goes.go (fun _ kst => XS.icmpNo XJ.here hx rfl (hb hby at_155) rfl (tlt hc155_44).2.2.2 kst) ?_
      show Goes p e below s _ _ _ (TJ.setTop (mkF m 158 #[.val (.int p0), .val (.long q1), .second, .val (.int (Int32.ofNat n)), .val (.ref b1), .val (.ref b11), .unset, .unset, .unset] []))
      refine Goes.go (fun _ kst => XS.aload XJ.here hx rfl (hb hby at_158) rfl rfl  kst) ?_
      show Goes p e below s _ _ _ (TJ.setTop (mkF m 160 #[.val (.int p0), .val (.long q1), .second, .val (.int (Int32.ofNat n)), .val (.ref b1), .val (.ref b11), .unset, .unset, .unset] [(.ref b11)]))
      refine Goes.go (fun _ kst => XS.bipush XJ.here hx rfl (hb hby at_160) kst) ?_
      show Goes p e below s _ _ _ (TJ.setTop (mkF m 162 #[.val (.int p0), .val (.long q1), .second, .val (.int (Int32.ofNat n)), .val (.ref b1), .val (.ref b11), .unset, .unset, .unset] [(.int (6 : Int32)), (.ref b11)]))
      refine Goes.go (fun _ kst => XS.lloadN XJ.here hx rfl (hb hby at_162) rfl  kst) ?_
      show Goes p e below s _ _ _ (TJ.setTop (mkF m 163 #[.val (.int p0), .val (.long q1), .second, .val (.int (Int32.ofNat n)), .val (.ref b1), .val (.ref b11), .unset, .unset, .unset] [(.long q1), (.int (6 : Int32)), (.ref b11)]))
      refine Goes.go (fun _ kst => XS.bipush XJ.here hx rfl (hb hby at_163) kst) ?_
      show Goes p e below s _ _ _ (TJ.setTop (mkF m 165 #[.val (.int p0), .val (.long q1), .second, .val (.int (Int32.ofNat n)), .val (.ref b1), .val (.ref b11), .unset, .unset, .unset] [(.int (8 : Int32)), (.long q1), (.int (6 : Int32)), (.ref b11)]))
      refine Goes.go (fun _ kst => XS.lushr XJ.here hx rfl (hb hby at_165) rfl kst) ?_
      show Goes p e below s _ _ _ (TJ.setTop (mkF m 166 #[.val (.int p0), .val (.long q1), .second, .val (.int (Int32.ofNat n)), .val (.ref b1), .val (.ref b11), .unset, .unset, .unset] [(.long ((q1.toUInt64 >>> ((8 : Int32) &&& 0x3f).toInt64.toUInt64).toInt64)), (.int (6 : Int32)), (.ref b11)]))
      refine Goes.go (fun _ kst => XS.l2i XJ.here hx rfl (hb hby at_166) rfl kst) ?_
      show Goes p e below s _ _ _ (TJ.setTop (mkF m 167 #[.val (.int p0), .val (.long q1), .second, .val (.int (Int32.ofNat n)), .val (.ref b1), .val (.ref b11), .unset, .unset, .unset] [(.int (((q1.toUInt64 >>> ((8 : Int32) &&& 0x3f).toInt64.toUInt64).toInt64).toInt32)), (.int (6 : Int32)), (.ref b11)]))
      refine Goes.go (fun _ kst => XS.i2b XJ.here hx rfl (hb hby at_167) rfl kst) ?_
      show Goes p e below s _ _ _ (TJ.setTop (mkF m 168 #[.val (.int p0), .val (.long q1), .second, .val (.int (Int32.ofNat n)), .val (.ref b1), .val (.ref b11), .unset, .unset, .unset] [(.int ((((q1.toUInt64 >>> ((8 : Int32) &&& 0x3f).toInt64.toUInt64).toInt64).toInt32).toInt8.toInt32)), (.int (6 : Int32)), (.ref b11)]))
      obtain ⟨T45, h45, X45, e45, W45, A45, st45⟩ := own_stB XJ hx hZ eJ AB (i := 6) rfl ((own_lt (i := 6) (by decide) (by omega)).mp hc155_44) (g := (mkF m 168 #[.val (.int p0), .val (.long q1), .second, .val (.int (Int32.ofNat n)), .val (.ref b1), .val (.ref b11), .unset, .unset, .unset] [(.int ((((q1.toUInt64 >>> ((8 : Int32) &&& 0x3f).toInt64.toUInt64).toInt64).toInt32).toInt8.toInt32)), (.int (6 : Int32)), (.ref b11)])) rfl rfl (hb hby at_168)
      have N45 := Fr.snoc X45 NJ gb11
      have Z45 := Nat.le_trans ZJ (Keep.of_wr W45).1
      have K45 := Keep.wr KJ W45 (Or.inr sb11)
      refine Goes.go st45 ?_
      exact J169 X45 e45 N45 Z45 K45 (AL.other W45 ne45) ((A45).as (fun i hi => own_Pst rfl i))
    · skip
      refine Goes.go (fun _ kst => XS.icmpYes XJ.here hx rfl (pc0 := 155) (pc' := 169) rfl (hb hby at_155) rfl (flt hc155_44).2.2.2 (by decide) (by decide) kst) ?_
      have own_le : (¬ ((6 : Int32) < (Int32.ofNat n))) → n ≤ 6 := fun q => by have := mt (own_lt (i := 6) (n := n) (by decide) (by omega)).mpr q; omega
      exact J169 XJ eJ NJ ZJ KJ AL ((AB).as (fun i hi => own_Psk (own_le hc155_44) hi))
  have J137 : ∀ {TJ : State} {lj : List Loc} {hJ : Heap} (XJ : Stand p l e room_1 s m #[(.int p0), (.long q1)] below meth c TJ lj (0 + 1 + 1) (0 + 9 + 8)) (eJ : TJ.heap = hJ) (NJ : Fr n0 lj) (ZJ : n0 ≤ hJ.size) (KJ : Keep h0 hJ []) (AL : IA Z hJ b1 .int 9 lens) (AB : IA Z hJ b11 .byte n (own_P q1 5)), Goes p e below s (Q0 n0) room_1.cells room_1.slots (TJ.setTop (mkF m 137 #[.val (.int p0), .val (.long q1), .second, .val (.int (Int32.ofNat n)), .val (.ref b1), .val (.ref b11), .unset, .unset, .unset] [])) := by
    intro TJ lj hJ XJ eJ NJ ZJ KJ AL AB
    show Goes p e below s _ _ _ (TJ.setTop (mkF m 137 #[.val (.int p0), .val (.long q1), .second, .val (.int (Int32.ofNat n)), .val (.ref b1), .val (.ref b11), .unset, .unset, .unset] []))
    refine Goes.go (fun _ kst => XS.iloadN XJ.here hx rfl (hb hby at_137) rfl  kst) ?_
    show Goes p e below s _ _ _ (TJ.setTop (mkF m 138 #[.val (.int p0), .val (.long q1), .second, .val (.int (Int32.ofNat n)), .val (.ref b1), .val (.ref b11), .unset, .unset, .unset] [(.int (Int32.ofNat n))]))
    refine Goes.go (fun _ kst => XS.iconst XJ.here hx rfl (hb hby at_138) kst) ?_
    show Goes p e below s _ _ _ (TJ.setTop (mkF m 139 #[.val (.int p0), .val (.long q1), .second, .val (.int (Int32.ofNat n)), .val (.ref b1), .val (.ref b11), .unset, .unset, .unset] [(.int (5 : Int32)), (.int (Int32.ofNat n))]))
    by_cases hc139_46 : (5 : Int32) < (Int32.ofNat n)
    · skip
      refine Goes.go (fun _ kst => XS.icmpNo XJ.here hx rfl (hb hby at_139) rfl (tlt hc139_46).2.2.2 kst) ?_
      show Goes p e below s _ _ _ (TJ.setTop (mkF m 142 #[.val (.int p0), .val (.long q1), .second, .val (.int (Int32.ofNat n)), .val (.ref b1), .val (.ref b11), .unset, .unset, .unset] []))
      refine Goes.go (fun _ kst => XS.aload XJ.here hx rfl (hb hby at_142) rfl rfl  kst) ?_
      show Goes p e below s _ _ _ (TJ.setTop (mkF m 144 #[.val (.int p0), .val (.long q1), .second, .val (.int (Int32.ofNat n)), .val (.ref b1), .val (.ref b11), .unset, .unset, .unset] [(.ref b11)]))
      refine Goes.go (fun _ kst => XS.iconst XJ.here hx rfl (hb hby at_144) kst) ?_
      show Goes p e below s _ _ _ (TJ.setTop (mkF m 145 #[.val (.int p0), .val (.long q1), .second, .val (.int (Int32.ofNat n)), .val (.ref b1), .val (.ref b11), .unset, .unset, .unset] [(.int (5 : Int32)), (.ref b11)]))
      refine Goes.go (fun _ kst => XS.lloadN XJ.here hx rfl (hb hby at_145) rfl  kst) ?_
      show Goes p e below s _ _ _ (TJ.setTop (mkF m 146 #[.val (.int p0), .val (.long q1), .second, .val (.int (Int32.ofNat n)), .val (.ref b1), .val (.ref b11), .unset, .unset, .unset] [(.long q1), (.int (5 : Int32)), (.ref b11)]))
      refine Goes.go (fun _ kst => XS.bipush XJ.here hx rfl (hb hby at_146) kst) ?_
      show Goes p e below s _ _ _ (TJ.setTop (mkF m 148 #[.val (.int p0), .val (.long q1), .second, .val (.int (Int32.ofNat n)), .val (.ref b1), .val (.ref b11), .unset, .unset, .unset] [(.int (16 : Int32)), (.long q1), (.int (5 : Int32)), (.ref b11)]))
      refine Goes.go (fun _ kst => XS.lushr XJ.here hx rfl (hb hby at_148) rfl kst) ?_
      show Goes p e below s _ _ _ (TJ.setTop (mkF m 149 #[.val (.int p0), .val (.long q1), .second, .val (.int (Int32.ofNat n)), .val (.ref b1), .val (.ref b11), .unset, .unset, .unset] [(.long ((q1.toUInt64 >>> ((16 : Int32) &&& 0x3f).toInt64.toUInt64).toInt64)), (.int (5 : Int32)), (.ref b11)]))
      refine Goes.go (fun _ kst => XS.l2i XJ.here hx rfl (hb hby at_149) rfl kst) ?_
      show Goes p e below s _ _ _ (TJ.setTop (mkF m 150 #[.val (.int p0), .val (.long q1), .second, .val (.int (Int32.ofNat n)), .val (.ref b1), .val (.ref b11), .unset, .unset, .unset] [(.int (((q1.toUInt64 >>> ((16 : Int32) &&& 0x3f).toInt64.toUInt64).toInt64).toInt32)), (.int (5 : Int32)), (.ref b11)]))
      refine Goes.go (fun _ kst => XS.i2b XJ.here hx rfl (hb hby at_150) rfl kst) ?_
      show Goes p e below s _ _ _ (TJ.setTop (mkF m 151 #[.val (.int p0), .val (.long q1), .second, .val (.int (Int32.ofNat n)), .val (.ref b1), .val (.ref b11), .unset, .unset, .unset] [(.int ((((q1.toUInt64 >>> ((16 : Int32) &&& 0x3f).toInt64.toUInt64).toInt64).toInt32).toInt8.toInt32)), (.int (5 : Int32)), (.ref b11)]))
      obtain ⟨T47, h47, X47, e47, W47, A47, st47⟩ := own_stB XJ hx hZ eJ AB (i := 5) rfl ((own_lt (i := 5) (by decide) (by omega)).mp hc139_46) (g := (mkF m 151 #[.val (.int p0), .val (.long q1), .second, .val (.int (Int32.ofNat n)), .val (.ref b1), .val (.ref b11), .unset, .unset, .unset] [(.int ((((q1.toUInt64 >>> ((16 : Int32) &&& 0x3f).toInt64.toUInt64).toInt64).toInt32).toInt8.toInt32)), (.int (5 : Int32)), (.ref b11)])) rfl rfl (hb hby at_151)
      have N47 := Fr.snoc X47 NJ gb11
      have Z47 := Nat.le_trans ZJ (Keep.of_wr W47).1
      have K47 := Keep.wr KJ W47 (Or.inr sb11)
      refine Goes.go st47 ?_
      exact J152 X47 e47 N47 Z47 K47 (AL.other W47 ne45) ((A47).as (fun i hi => own_Pst rfl i))
    · skip
      refine Goes.go (fun _ kst => XS.icmpYes XJ.here hx rfl (pc0 := 139) (pc' := 152) rfl (hb hby at_139) rfl (flt hc139_46).2.2.2 (by decide) (by decide) kst) ?_
      have own_le : (¬ ((5 : Int32) < (Int32.ofNat n))) → n ≤ 5 := fun q => by have := mt (own_lt (i := 5) (n := n) (by decide) (by omega)).mpr q; omega
      exact J152 XJ eJ NJ ZJ KJ AL ((AB).as (fun i hi => own_Psk (own_le hc139_46) hi))
  have J122 : ∀ {TJ : State} {lj : List Loc} {hJ : Heap} (XJ : Stand p l e room_1 s m #[(.int p0), (.long q1)] below meth c TJ lj (0 + 1 + 1) (0 + 9 + 8)) (eJ : TJ.heap = hJ) (NJ : Fr n0 lj) (ZJ : n0 ≤ hJ.size) (KJ : Keep h0 hJ []) (AL : IA Z hJ b1 .int 9 lens) (AB : IA Z hJ b11 .byte n (own_P q1 4)), Goes p e below s (Q0 n0) room_1.cells room_1.slots (TJ.setTop (mkF m 122 #[.val (.int p0), .val (.long q1), .second, .val (.int (Int32.ofNat n)), .val (.ref b1), .val (.ref b11), .unset, .unset, .unset] [])) := by
    intro TJ lj hJ XJ eJ NJ ZJ KJ AL AB
    show Goes p e below s _ _ _ (TJ.setTop (mkF m 122 #[.val (.int p0), .val (.long q1), .second, .val (.int (Int32.ofNat n)), .val (.ref b1), .val (.ref b11), .unset, .unset, .unset] []))
    refine Goes.go (fun _ kst => XS.iloadN XJ.here hx rfl (hb hby at_122) rfl  kst) ?_
    show Goes p e below s _ _ _ (TJ.setTop (mkF m 123 #[.val (.int p0), .val (.long q1), .second, .val (.int (Int32.ofNat n)), .val (.ref b1), .val (.ref b11), .unset, .unset, .unset] [(.int (Int32.ofNat n))]))
    refine Goes.go (fun _ kst => XS.iconst XJ.here hx rfl (hb hby at_123) kst) ?_
    show Goes p e below s _ _ _ (TJ.setTop (mkF m 124 #[.val (.int p0), .val (.long q1), .second, .val (.int (Int32.ofNat n)), .val (.ref b1), .val (.ref b11), .unset, .unset, .unset] [(.int (4 : Int32)), (.int (Int32.ofNat n))]))
    by_cases hc124_48 : (4 : Int32) < (Int32.ofNat n)
    · skip
      refine Goes.go (fun _ kst => XS.icmpNo XJ.here hx rfl (hb hby at_124) rfl (tlt hc124_48).2.2.2 kst) ?_
      show Goes p e below s _ _ _ (TJ.setTop (mkF m 127 #[.val (.int p0), .val (.long q1), .second, .val (.int (Int32.ofNat n)), .val (.ref b1), .val (.ref b11), .unset, .unset, .unset] []))
      refine Goes.go (fun _ kst => XS.aload XJ.here hx rfl (hb hby at_127) rfl rfl  kst) ?_
      show Goes p e below s _ _ _ (TJ.setTop (mkF m 129 #[.val (.int p0), .val (.long q1), .second, .val (.int (Int32.ofNat n)), .val (.ref b1), .val (.ref b11), .unset, .unset, .unset] [(.ref b11)]))
      refine Goes.go (fun _ kst => XS.iconst XJ.here hx rfl (hb hby at_129) kst) ?_
      show Goes p e below s _ _ _ (TJ.setTop (mkF m 130 #[.val (.int p0), .val (.long q1), .second, .val (.int (Int32.ofNat n)), .val (.ref b1), .val (.ref b11), .unset, .unset, .unset] [(.int (4 : Int32)), (.ref b11)]))
      refine Goes.go (fun _ kst => XS.lloadN XJ.here hx rfl (hb hby at_130) rfl  kst) ?_
      show Goes p e below s _ _ _ (TJ.setTop (mkF m 131 #[.val (.int p0), .val (.long q1), .second, .val (.int (Int32.ofNat n)), .val (.ref b1), .val (.ref b11), .unset, .unset, .unset] [(.long q1), (.int (4 : Int32)), (.ref b11)]))
      refine Goes.go (fun _ kst => XS.bipush XJ.here hx rfl (hb hby at_131) kst) ?_
      show Goes p e below s _ _ _ (TJ.setTop (mkF m 133 #[.val (.int p0), .val (.long q1), .second, .val (.int (Int32.ofNat n)), .val (.ref b1), .val (.ref b11), .unset, .unset, .unset] [(.int (24 : Int32)), (.long q1), (.int (4 : Int32)), (.ref b11)]))
      refine Goes.go (fun _ kst => XS.lushr XJ.here hx rfl (hb hby at_133) rfl kst) ?_
      show Goes p e below s _ _ _ (TJ.setTop (mkF m 134 #[.val (.int p0), .val (.long q1), .second, .val (.int (Int32.ofNat n)), .val (.ref b1), .val (.ref b11), .unset, .unset, .unset] [(.long ((q1.toUInt64 >>> ((24 : Int32) &&& 0x3f).toInt64.toUInt64).toInt64)), (.int (4 : Int32)), (.ref b11)]))
      refine Goes.go (fun _ kst => XS.l2i XJ.here hx rfl (hb hby at_134) rfl kst) ?_
      show Goes p e below s _ _ _ (TJ.setTop (mkF m 135 #[.val (.int p0), .val (.long q1), .second, .val (.int (Int32.ofNat n)), .val (.ref b1), .val (.ref b11), .unset, .unset, .unset] [(.int (((q1.toUInt64 >>> ((24 : Int32) &&& 0x3f).toInt64.toUInt64).toInt64).toInt32)), (.int (4 : Int32)), (.ref b11)]))
      refine Goes.go (fun _ kst => XS.i2b XJ.here hx rfl (hb hby at_135) rfl kst) ?_
      show Goes p e below s _ _ _ (TJ.setTop (mkF m 136 #[.val (.int p0), .val (.long q1), .second, .val (.int (Int32.ofNat n)), .val (.ref b1), .val (.ref b11), .unset, .unset, .unset] [(.int ((((q1.toUInt64 >>> ((24 : Int32) &&& 0x3f).toInt64.toUInt64).toInt64).toInt32).toInt8.toInt32)), (.int (4 : Int32)), (.ref b11)]))
      obtain ⟨T49, h49, X49, e49, W49, A49, st49⟩ := own_stB XJ hx hZ eJ AB (i := 4) rfl ((own_lt (i := 4) (by decide) (by omega)).mp hc124_48) (g := (mkF m 136 #[.val (.int p0), .val (.long q1), .second, .val (.int (Int32.ofNat n)), .val (.ref b1), .val (.ref b11), .unset, .unset, .unset] [(.int ((((q1.toUInt64 >>> ((24 : Int32) &&& 0x3f).toInt64.toUInt64).toInt64).toInt32).toInt8.toInt32)), (.int (4 : Int32)), (.ref b11)])) rfl rfl (hb hby at_136)
      have N49 := Fr.snoc X49 NJ gb11
      have Z49 := Nat.le_trans ZJ (Keep.of_wr W49).1
      have K49 := Keep.wr KJ W49 (Or.inr sb11)
      refine Goes.go st49 ?_
      exact J137 X49 e49 N49 Z49 K49 (AL.other W49 ne45) ((A49).as (fun i hi => own_Pst rfl i))
    · skip
      refine Goes.go (fun _ kst => XS.icmpYes XJ.here hx rfl (pc0 := 124) (pc' := 137) rfl (hb hby at_124) rfl (flt hc124_48).2.2.2 (by decide) (by decide) kst) ?_
      have own_le : (¬ ((4 : Int32) < (Int32.ofNat n))) → n ≤ 4 := fun q => by have := mt (own_lt (i := 4) (n := n) (by decide) (by omega)).mpr q; omega
      exact J137 XJ eJ NJ ZJ KJ AL ((AB).as (fun i hi => own_Psk (own_le hc124_48) hi))
  have J107 : ∀ {TJ : State} {lj : List Loc} {hJ : Heap} (XJ : Stand p l e room_1 s m #[(.int p0), (.long q1)] below meth c TJ lj (0 + 1 + 1) (0 + 9 + 8)) (eJ : TJ.heap = hJ) (NJ : Fr n0 lj) (ZJ : n0 ≤ hJ.size) (KJ : Keep h0 hJ []) (AL : IA Z hJ b1 .int 9 lens) (AB : IA Z hJ b11 .byte n (own_P q1 3)), Goes p e below s (Q0 n0) room_1.cells room_1.slots (TJ.setTop (mkF m 107 #[.val (.int p0), .val (.long q1), .second, .val (.int (Int32.ofNat n)), .val (.ref b1), .val (.ref b11), .unset, .unset, .unset] [])) := by
    intro TJ lj hJ XJ eJ NJ ZJ KJ AL AB
    show Goes p e below s _ _ _ (TJ.setTop (mkF m 107 #[.val (.int p0), .val (.long q1), .second, .val (.int (Int32.ofNat n)), .val (.ref b1), .val (.ref b11), .unset, .unset, .unset] []))
    refine Goes.go (fun _ kst => XS.iloadN XJ.here hx rfl (hb hby at_107) rfl  kst) ?_
    show Goes p e below s _ _ _ (TJ.setTop (mkF m 108 #[.val (.int p0), .val (.long q1), .second, .val (.int (Int32.ofNat n)), .val (.ref b1), .val (.ref b11), .unset, .unset, .unset] [(.int (Int32.ofNat n))]))
    refine Goes.go (fun _ kst => XS.iconst XJ.here hx rfl (hb hby at_108) kst) ?_
    show Goes p e below s _ _ _ (TJ.setTop (mkF m 109 #[.val (.int p0), .val (.long q1), .second, .val (.int (Int32.ofNat n)), .val (.ref b1), .val (.ref b11), .unset, .unset, .unset] [(.int (3 : Int32)), (.int (Int32.ofNat n))]))
    by_cases hc109_50 : (3 : Int32) < (Int32.ofNat n)
    · skip
      refine Goes.go (fun _ kst => XS.icmpNo XJ.here hx rfl (hb hby at_109) rfl (tlt hc109_50).2.2.2 kst) ?_
      show Goes p e below s _ _ _ (TJ.setTop (mkF m 112 #[.val (.int p0), .val (.long q1), .second, .val (.int (Int32.ofNat n)), .val (.ref b1), .val (.ref b11), .unset, .unset, .unset] []))
      refine Goes.go (fun _ kst => XS.aload XJ.here hx rfl (hb hby at_112) rfl rfl  kst) ?_
      show Goes p e below s _ _ _ (TJ.setTop (mkF m 114 #[.val (.int p0), .val (.long q1), .second, .val (.int (Int32.ofNat n)), .val (.ref b1), .val (.ref b11), .unset, .unset, .unset] [(.ref b11)]))
      refine Goes.go (fun _ kst => XS.iconst XJ.here hx rfl (hb hby at_114) kst) ?_
      show Goes p e below s _ _ _ (TJ.setTop (mkF m 115 #[.val (.int p0), .val (.long q1), .second, .val (.int (Int32.ofNat n)), .val (.ref b1), .val (.ref b11), .unset, .unset, .unset] [(.int (3 : Int32)), (.ref b11)]))
      refine Goes.go (fun _ kst => XS.lloadN XJ.here hx rfl (hb hby at_115) rfl  kst) ?_
      show Goes p e below s _ _ _ (TJ.setTop (mkF m 116 #[.val (.int p0), .val (.long q1), .second, .val (.int (Int32.ofNat n)), .val (.ref b1), .val (.ref b11), .unset, .unset, .unset] [(.long q1), (.int (3 : Int32)), (.ref b11)]))
      refine Goes.go (fun _ kst => XS.bipush XJ.here hx rfl (hb hby at_116) kst) ?_
      show Goes p e below s _ _ _ (TJ.setTop (mkF m 118 #[.val (.int p0), .val (.long q1), .second, .val (.int (Int32.ofNat n)), .val (.ref b1), .val (.ref b11), .unset, .unset, .unset] [(.int (32 : Int32)), (.long q1), (.int (3 : Int32)), (.ref b11)]))
      refine Goes.go (fun _ kst => XS.lushr XJ.here hx rfl (hb hby at_118) rfl kst) ?_
      show Goes p e below s _ _ _ (TJ.setTop (mkF m 119 #[.val (.int p0), .val (.long q1), .second, .val (.int (Int32.ofNat n)), .val (.ref b1), .val (.ref b11), .unset, .unset, .unset] [(.long ((q1.toUInt64 >>> ((32 : Int32) &&& 0x3f).toInt64.toUInt64).toInt64)), (.int (3 : Int32)), (.ref b11)]))
      refine Goes.go (fun _ kst => XS.l2i XJ.here hx rfl (hb hby at_119) rfl kst) ?_
      show Goes p e below s _ _ _ (TJ.setTop (mkF m 120 #[.val (.int p0), .val (.long q1), .second, .val (.int (Int32.ofNat n)), .val (.ref b1), .val (.ref b11), .unset, .unset, .unset] [(.int (((q1.toUInt64 >>> ((32 : Int32) &&& 0x3f).toInt64.toUInt64).toInt64).toInt32)), (.int (3 : Int32)), (.ref b11)]))
      refine Goes.go (fun _ kst => XS.i2b XJ.here hx rfl (hb hby at_120) rfl kst) ?_
      show Goes p e below s _ _ _ (TJ.setTop (mkF m 121 #[.val (.int p0), .val (.long q1), .second, .val (.int (Int32.ofNat n)), .val (.ref b1), .val (.ref b11), .unset, .unset, .unset] [(.int ((((q1.toUInt64 >>> ((32 : Int32) &&& 0x3f).toInt64.toUInt64).toInt64).toInt32).toInt8.toInt32)), (.int (3 : Int32)), (.ref b11)]))
      obtain ⟨T51, h51, X51, e51, W51, A51, st51⟩ := own_stB XJ hx hZ eJ AB (i := 3) rfl ((own_lt (i := 3) (by decide) (by omega)).mp hc109_50) (g := (mkF m 121 #[.val (.int p0), .val (.long q1), .second, .val (.int (Int32.ofNat n)), .val (.ref b1), .val (.ref b11), .unset, .unset, .unset] [(.int ((((q1.toUInt64 >>> ((32 : Int32) &&& 0x3f).toInt64.toUInt64).toInt64).toInt32).toInt8.toInt32)), (.int (3 : Int32)), (.ref b11)])) rfl rfl (hb hby at_121)
      have N51 := Fr.snoc X51 NJ gb11
      have Z51 := Nat.le_trans ZJ (Keep.of_wr W51).1
      have K51 := Keep.wr KJ W51 (Or.inr sb11)
      refine Goes.go st51 ?_
      exact J122 X51 e51 N51 Z51 K51 (AL.other W51 ne45) ((A51).as (fun i hi => own_Pst rfl i))
    · skip
      refine Goes.go (fun _ kst => XS.icmpYes XJ.here hx rfl (pc0 := 109) (pc' := 122) rfl (hb hby at_109) rfl (flt hc109_50).2.2.2 (by decide) (by decide) kst) ?_
      have own_le : (¬ ((3 : Int32) < (Int32.ofNat n))) → n ≤ 3 := fun q => by have := mt (own_lt (i := 3) (n := n) (by decide) (by omega)).mpr q; omega
      exact J122 XJ eJ NJ ZJ KJ AL ((AB).as (fun i hi => own_Psk (own_le hc109_50) hi))
  have J92 : ∀ {TJ : State} {lj : List Loc} {hJ : Heap} (XJ : Stand p l e room_1 s m #[(.int p0), (.long q1)] below meth c TJ lj (0 + 1 + 1) (0 + 9 + 8)) (eJ : TJ.heap = hJ) (NJ : Fr n0 lj) (ZJ : n0 ≤ hJ.size) (KJ : Keep h0 hJ []) (AL : IA Z hJ b1 .int 9 lens) (AB : IA Z hJ b11 .byte n (own_P q1 2)), Goes p e below s (Q0 n0) room_1.cells room_1.slots (TJ.setTop (mkF m 92 #[.val (.int p0), .val (.long q1), .second, .val (.int (Int32.ofNat n)), .val (.ref b1), .val (.ref b11), .unset, .unset, .unset] [])) := by
    intro TJ lj hJ XJ eJ NJ ZJ KJ AL AB
    show Goes p e below s _ _ _ (TJ.setTop (mkF m 92 #[.val (.int p0), .val (.long q1), .second, .val (.int (Int32.ofNat n)), .val (.ref b1), .val (.ref b11), .unset, .unset, .unset] []))
    refine Goes.go (fun _ kst => XS.iloadN XJ.here hx rfl (hb hby at_92) rfl  kst) ?_
    show Goes p e below s _ _ _ (TJ.setTop (mkF m 93 #[.val (.int p0), .val (.long q1), .second, .val (.int (Int32.ofNat n)), .val (.ref b1), .val (.ref b11), .unset, .unset, .unset] [(.int (Int32.ofNat n))]))
    refine Goes.go (fun _ kst => XS.iconst XJ.here hx rfl (hb hby at_93) kst) ?_
    show Goes p e below s _ _ _ (TJ.setTop (mkF m 94 #[.val (.int p0), .val (.long q1), .second, .val (.int (Int32.ofNat n)), .val (.ref b1), .val (.ref b11), .unset, .unset, .unset] [(.int (2 : Int32)), (.int (Int32.ofNat n))]))
    by_cases hc94_52 : (2 : Int32) < (Int32.ofNat n)
    · skip
      refine Goes.go (fun _ kst => XS.icmpNo XJ.here hx rfl (hb hby at_94) rfl (tlt hc94_52).2.2.2 kst) ?_
      show Goes p e below s _ _ _ (TJ.setTop (mkF m 97 #[.val (.int p0), .val (.long q1), .second, .val (.int (Int32.ofNat n)), .val (.ref b1), .val (.ref b11), .unset, .unset, .unset] []))
      refine Goes.go (fun _ kst => XS.aload XJ.here hx rfl (hb hby at_97) rfl rfl  kst) ?_
      show Goes p e below s _ _ _ (TJ.setTop (mkF m 99 #[.val (.int p0), .val (.long q1), .second, .val (.int (Int32.ofNat n)), .val (.ref b1), .val (.ref b11), .unset, .unset, .unset] [(.ref b11)]))
      refine Goes.go (fun _ kst => XS.iconst XJ.here hx rfl (hb hby at_99) kst) ?_
      show Goes p e below s _ _ _ (TJ.setTop (mkF m 100 #[.val (.int p0), .val (.long q1), .second, .val (.int (Int32.ofNat n)), .val (.ref b1), .val (.ref b11), .unset, .unset, .unset] [(.int (2 : Int32)), (.ref b11)]))
      refine Goes.go (fun _ kst => XS.lloadN XJ.here hx rfl (hb hby at_100) rfl  kst) ?_
      show Goes p e below s _ _ _ (TJ.setTop (mkF m 101 #[.val (.int p0), .val (.long q1), .second, .val (.int (Int32.ofNat n)), .val (.ref b1), .val (.ref b11), .unset, .unset, .unset] [(.long q1), (.int (2 : Int32)), (.ref b11)]))
      refine Goes.go (fun _ kst => XS.bipush XJ.here hx rfl (hb hby at_101) kst) ?_
      show Goes p e below s _ _ _ (TJ.setTop (mkF m 103 #[.val (.int p0), .val (.long q1), .second, .val (.int (Int32.ofNat n)), .val (.ref b1), .val (.ref b11), .unset, .unset, .unset] [(.int (40 : Int32)), (.long q1), (.int (2 : Int32)), (.ref b11)]))
      refine Goes.go (fun _ kst => XS.lushr XJ.here hx rfl (hb hby at_103) rfl kst) ?_
      show Goes p e below s _ _ _ (TJ.setTop (mkF m 104 #[.val (.int p0), .val (.long q1), .second, .val (.int (Int32.ofNat n)), .val (.ref b1), .val (.ref b11), .unset, .unset, .unset] [(.long ((q1.toUInt64 >>> ((40 : Int32) &&& 0x3f).toInt64.toUInt64).toInt64)), (.int (2 : Int32)), (.ref b11)]))
      refine Goes.go (fun _ kst => XS.l2i XJ.here hx rfl (hb hby at_104) rfl kst) ?_
      show Goes p e below s _ _ _ (TJ.setTop (mkF m 105 #[.val (.int p0), .val (.long q1), .second, .val (.int (Int32.ofNat n)), .val (.ref b1), .val (.ref b11), .unset, .unset, .unset] [(.int (((q1.toUInt64 >>> ((40 : Int32) &&& 0x3f).toInt64.toUInt64).toInt64).toInt32)), (.int (2 : Int32)), (.ref b11)]))
      refine Goes.go (fun _ kst => XS.i2b XJ.here hx rfl (hb hby at_105) rfl kst) ?_
      show Goes p e below s _ _ _ (TJ.setTop (mkF m 106 #[.val (.int p0), .val (.long q1), .second, .val (.int (Int32.ofNat n)), .val (.ref b1), .val (.ref b11), .unset, .unset, .unset] [(.int ((((q1.toUInt64 >>> ((40 : Int32) &&& 0x3f).toInt64.toUInt64).toInt64).toInt32).toInt8.toInt32)), (.int (2 : Int32)), (.ref b11)]))
      obtain ⟨T53, h53, X53, e53, W53, A53, st53⟩ := own_stB XJ hx hZ eJ AB (i := 2) rfl ((own_lt (i := 2) (by decide) (by omega)).mp hc94_52) (g := (mkF m 106 #[.val (.int p0), .val (.long q1), .second, .val (.int (Int32.ofNat n)), .val (.ref b1), .val (.ref b11), .unset, .unset, .unset] [(.int ((((q1.toUInt64 >>> ((40 : Int32) &&& 0x3f).toInt64.toUInt64).toInt64).toInt32).toInt8.toInt32)), (.int (2 : Int32)), (.ref b11)])) rfl rfl (hb hby at_106)
      have N53 := Fr.snoc X53 NJ gb11
      have Z53 := Nat.le_trans ZJ (Keep.of_wr W53).1
      have K53 := Keep.wr KJ W53 (Or.inr sb11)
      refine Goes.go st53 ?_
      exact J107 X53 e53 N53 Z53 K53 (AL.other W53 ne45) ((A53).as (fun i hi => own_Pst rfl i))
    · skip
      refine Goes.go (fun _ kst => XS.icmpYes XJ.here hx rfl (pc0 := 94) (pc' := 107) rfl (hb hby at_94) rfl (flt hc94_52).2.2.2 (by decide) (by decide) kst) ?_
      have own_le : (¬ ((2 : Int32) < (Int32.ofNat n))) → n ≤ 2 := fun q => by have := mt (own_lt (i := 2) (n := n) (by decide) (by omega)).mpr q; omega
      exact J107 XJ eJ NJ ZJ KJ AL ((AB).as (fun i hi => own_Psk (own_le hc94_52) hi))
  have J77 : ∀ {TJ : State} {lj : List Loc} {hJ : Heap} (XJ : Stand p l e room_1 s m #[(.int p0), (.long q1)] below meth c TJ lj (0 + 1 + 1) (0 + 9 + 8)) (eJ : TJ.heap = hJ) (NJ : Fr n0 lj) (ZJ : n0 ≤ hJ.size) (KJ : Keep h0 hJ []) (AL : IA Z hJ b1 .int 9 lens) (AB : IA Z hJ b11 .byte n (own_P q1 1)), Goes p e below s (Q0 n0) room_1.cells room_1.slots (TJ.setTop (mkF m 77 #[.val (.int p0), .val (.long q1), .second, .val (.int (Int32.ofNat n)), .val (.ref b1), .val (.ref b11), .unset, .unset, .unset] [])) := by
    intro TJ lj hJ XJ eJ NJ ZJ KJ AL AB
    show Goes p e below s _ _ _ (TJ.setTop (mkF m 77 #[.val (.int p0), .val (.long q1), .second, .val (.int (Int32.ofNat n)), .val (.ref b1), .val (.ref b11), .unset, .unset, .unset] []))
    refine Goes.go (fun _ kst => XS.iloadN XJ.here hx rfl (hb hby at_77) rfl  kst) ?_
    show Goes p e below s _ _ _ (TJ.setTop (mkF m 78 #[.val (.int p0), .val (.long q1), .second, .val (.int (Int32.ofNat n)), .val (.ref b1), .val (.ref b11), .unset, .unset, .unset] [(.int (Int32.ofNat n))]))
    refine Goes.go (fun _ kst => XS.iconst XJ.here hx rfl (hb hby at_78) kst) ?_
    show Goes p e below s _ _ _ (TJ.setTop (mkF m 79 #[.val (.int p0), .val (.long q1), .second, .val (.int (Int32.ofNat n)), .val (.ref b1), .val (.ref b11), .unset, .unset, .unset] [(.int (1 : Int32)), (.int (Int32.ofNat n))]))
    by_cases hc79_54 : (1 : Int32) < (Int32.ofNat n)
    · skip
      refine Goes.go (fun _ kst => XS.icmpNo XJ.here hx rfl (hb hby at_79) rfl (tlt hc79_54).2.2.2 kst) ?_
      show Goes p e below s _ _ _ (TJ.setTop (mkF m 82 #[.val (.int p0), .val (.long q1), .second, .val (.int (Int32.ofNat n)), .val (.ref b1), .val (.ref b11), .unset, .unset, .unset] []))
      refine Goes.go (fun _ kst => XS.aload XJ.here hx rfl (hb hby at_82) rfl rfl  kst) ?_
      show Goes p e below s _ _ _ (TJ.setTop (mkF m 84 #[.val (.int p0), .val (.long q1), .second, .val (.int (Int32.ofNat n)), .val (.ref b1), .val (.ref b11), .unset, .unset, .unset] [(.ref b11)]))
      refine Goes.go (fun _ kst => XS.iconst XJ.here hx rfl (hb hby at_84) kst) ?_
      show Goes p e below s _ _ _ (TJ.setTop (mkF m 85 #[.val (.int p0), .val (.long q1), .second, .val (.int (Int32.ofNat n)), .val (.ref b1), .val (.ref b11), .unset, .unset, .unset] [(.int (1 : Int32)), (.ref b11)]))
      refine Goes.go (fun _ kst => XS.lloadN XJ.here hx rfl (hb hby at_85) rfl  kst) ?_
      show Goes p e below s _ _ _ (TJ.setTop (mkF m 86 #[.val (.int p0), .val (.long q1), .second, .val (.int (Int32.ofNat n)), .val (.ref b1), .val (.ref b11), .unset, .unset, .unset] [(.long q1), (.int (1 : Int32)), (.ref b11)]))
      refine Goes.go (fun _ kst => XS.bipush XJ.here hx rfl (hb hby at_86) kst) ?_
      show Goes p e below s _ _ _ (TJ.setTop (mkF m 88 #[.val (.int p0), .val (.long q1), .second, .val (.int (Int32.ofNat n)), .val (.ref b1), .val (.ref b11), .unset, .unset, .unset] [(.int (48 : Int32)), (.long q1), (.int (1 : Int32)), (.ref b11)]))
      refine Goes.go (fun _ kst => XS.lushr XJ.here hx rfl (hb hby at_88) rfl kst) ?_
      show Goes p e below s _ _ _ (TJ.setTop (mkF m 89 #[.val (.int p0), .val (.long q1), .second, .val (.int (Int32.ofNat n)), .val (.ref b1), .val (.ref b11), .unset, .unset, .unset] [(.long ((q1.toUInt64 >>> ((48 : Int32) &&& 0x3f).toInt64.toUInt64).toInt64)), (.int (1 : Int32)), (.ref b11)]))
      refine Goes.go (fun _ kst => XS.l2i XJ.here hx rfl (hb hby at_89) rfl kst) ?_
      show Goes p e below s _ _ _ (TJ.setTop (mkF m 90 #[.val (.int p0), .val (.long q1), .second, .val (.int (Int32.ofNat n)), .val (.ref b1), .val (.ref b11), .unset, .unset, .unset] [(.int (((q1.toUInt64 >>> ((48 : Int32) &&& 0x3f).toInt64.toUInt64).toInt64).toInt32)), (.int (1 : Int32)), (.ref b11)]))
      refine Goes.go (fun _ kst => XS.i2b XJ.here hx rfl (hb hby at_90) rfl kst) ?_
      show Goes p e below s _ _ _ (TJ.setTop (mkF m 91 #[.val (.int p0), .val (.long q1), .second, .val (.int (Int32.ofNat n)), .val (.ref b1), .val (.ref b11), .unset, .unset, .unset] [(.int ((((q1.toUInt64 >>> ((48 : Int32) &&& 0x3f).toInt64.toUInt64).toInt64).toInt32).toInt8.toInt32)), (.int (1 : Int32)), (.ref b11)]))
      obtain ⟨T55, h55, X55, e55, W55, A55, st55⟩ := own_stB XJ hx hZ eJ AB (i := 1) rfl ((own_lt (i := 1) (by decide) (by omega)).mp hc79_54) (g := (mkF m 91 #[.val (.int p0), .val (.long q1), .second, .val (.int (Int32.ofNat n)), .val (.ref b1), .val (.ref b11), .unset, .unset, .unset] [(.int ((((q1.toUInt64 >>> ((48 : Int32) &&& 0x3f).toInt64.toUInt64).toInt64).toInt32).toInt8.toInt32)), (.int (1 : Int32)), (.ref b11)])) rfl rfl (hb hby at_91)
      have N55 := Fr.snoc X55 NJ gb11
      have Z55 := Nat.le_trans ZJ (Keep.of_wr W55).1
      have K55 := Keep.wr KJ W55 (Or.inr sb11)
      refine Goes.go st55 ?_
      exact J92 X55 e55 N55 Z55 K55 (AL.other W55 ne45) ((A55).as (fun i hi => own_Pst rfl i))
    · skip
      refine Goes.go (fun _ kst => XS.icmpYes XJ.here hx rfl (pc0 := 79) (pc' := 92) rfl (hb hby at_79) rfl (flt hc79_54).2.2.2 (by decide) (by decide) kst) ?_
      have own_le : (¬ ((1 : Int32) < (Int32.ofNat n))) → n ≤ 1 := fun q => by have := mt (own_lt (i := 1) (n := n) (by decide) (by omega)).mpr q; omega
      exact J92 XJ eJ NJ ZJ KJ AL ((AB).as (fun i hi => own_Psk (own_le hc79_54) hi))
  have J63 : ∀ {TJ : State} {lj : List Loc} {hJ : Heap} (XJ : Stand p l e room_1 s m #[(.int p0), (.long q1)] below meth c TJ lj (0 + 1 + 1) (0 + 9 + 8)) (eJ : TJ.heap = hJ) (NJ : Fr n0 lj) (ZJ : n0 ≤ hJ.size) (KJ : Keep h0 hJ []) (AL : IA Z hJ b1 .int 9 lens) (AB : IA Z hJ b11 .byte n (own_P q1 0)), Goes p e below s (Q0 n0) room_1.cells room_1.slots (TJ.setTop (mkF m 63 #[.val (.int p0), .val (.long q1), .second, .val (.int (Int32.ofNat n)), .val (.ref b1), .val (.ref b11), .unset, .unset, .unset] [])) := by
    intro TJ lj hJ XJ eJ NJ ZJ KJ AL AB
    show Goes p e below s _ _ _ (TJ.setTop (mkF m 63 #[.val (.int p0), .val (.long q1), .second, .val (.int (Int32.ofNat n)), .val (.ref b1), .val (.ref b11), .unset, .unset, .unset] []))
    refine Goes.go (fun _ kst => XS.iloadN XJ.here hx rfl (hb hby at_63) rfl  kst) ?_
    show Goes p e below s _ _ _ (TJ.setTop (mkF m 64 #[.val (.int p0), .val (.long q1), .second, .val (.int (Int32.ofNat n)), .val (.ref b1), .val (.ref b11), .unset, .unset, .unset] [(.int (Int32.ofNat n))]))
    by_cases hc64_56 : (0 : Int32) < (Int32.ofNat n)
    · skip
      refine Goes.go (fun _ kst => XS.ifNo XJ.here hx rfl (hb hby at_64) rfl ((if0 _ _).trans (tlt hc64_56).2.2.2) kst) ?_
      show Goes p e below s _ _ _ (TJ.setTop (mkF m 67 #[.val (.int p0), .val (.long q1), .second, .val (.int (Int32.ofNat n)), .val (.ref b1), .val (.ref b11), .unset, .unset, .unset] []))
      refine Goes.go (fun _ kst => XS.aload XJ.here hx rfl (hb hby at_67) rfl rfl  kst) ?_
      show Goes p e below s _ _ _ (TJ.setTop (mkF m 69 #[.val (.int p0), .val (.long q1), .second, .val (.int (Int32.ofNat n)), .val (.ref b1), .val (.ref b11), .unset, .unset, .unset] [(.ref b11)]))
      refine Goes.go (fun _ kst => XS.iconst XJ.here hx rfl (hb hby at_69) kst) ?_
      show Goes p e below s _ _ _ (TJ.setTop (mkF m 70 #[.val (.int p0), .val (.long q1), .second, .val (.int (Int32.ofNat n)), .val (.ref b1), .val (.ref b11), .unset, .unset, .unset] [(.int (0 : Int32)), (.ref b11)]))
      refine Goes.go (fun _ kst => XS.lloadN XJ.here hx rfl (hb hby at_70) rfl  kst) ?_
      show Goes p e below s _ _ _ (TJ.setTop (mkF m 71 #[.val (.int p0), .val (.long q1), .second, .val (.int (Int32.ofNat n)), .val (.ref b1), .val (.ref b11), .unset, .unset, .unset] [(.long q1), (.int (0 : Int32)), (.ref b11)]))
      refine Goes.go (fun _ kst => XS.bipush XJ.here hx rfl (hb hby at_71) kst) ?_
      show Goes p e below s _ _ _ (TJ.setTop (mkF m 73 #[.val (.int p0), .val (.long q1), .second, .val (.int (Int32.ofNat n)), .val (.ref b1), .val (.ref b11), .unset, .unset, .unset] [(.int (56 : Int32)), (.long q1), (.int (0 : Int32)), (.ref b11)]))
      refine Goes.go (fun _ kst => XS.lushr XJ.here hx rfl (hb hby at_73) rfl kst) ?_
      show Goes p e below s _ _ _ (TJ.setTop (mkF m 74 #[.val (.int p0), .val (.long q1), .second, .val (.int (Int32.ofNat n)), .val (.ref b1), .val (.ref b11), .unset, .unset, .unset] [(.long ((q1.toUInt64 >>> ((56 : Int32) &&& 0x3f).toInt64.toUInt64).toInt64)), (.int (0 : Int32)), (.ref b11)]))
      refine Goes.go (fun _ kst => XS.l2i XJ.here hx rfl (hb hby at_74) rfl kst) ?_
      show Goes p e below s _ _ _ (TJ.setTop (mkF m 75 #[.val (.int p0), .val (.long q1), .second, .val (.int (Int32.ofNat n)), .val (.ref b1), .val (.ref b11), .unset, .unset, .unset] [(.int (((q1.toUInt64 >>> ((56 : Int32) &&& 0x3f).toInt64.toUInt64).toInt64).toInt32)), (.int (0 : Int32)), (.ref b11)]))
      refine Goes.go (fun _ kst => XS.i2b XJ.here hx rfl (hb hby at_75) rfl kst) ?_
      show Goes p e below s _ _ _ (TJ.setTop (mkF m 76 #[.val (.int p0), .val (.long q1), .second, .val (.int (Int32.ofNat n)), .val (.ref b1), .val (.ref b11), .unset, .unset, .unset] [(.int ((((q1.toUInt64 >>> ((56 : Int32) &&& 0x3f).toInt64.toUInt64).toInt64).toInt32).toInt8.toInt32)), (.int (0 : Int32)), (.ref b11)]))
      obtain ⟨T57, h57, X57, e57, W57, A57, st57⟩ := own_stB XJ hx hZ eJ AB (i := 0) rfl ((own_lt (i := 0) (by decide) (by omega)).mp hc64_56) (g := (mkF m 76 #[.val (.int p0), .val (.long q1), .second, .val (.int (Int32.ofNat n)), .val (.ref b1), .val (.ref b11), .unset, .unset, .unset] [(.int ((((q1.toUInt64 >>> ((56 : Int32) &&& 0x3f).toInt64.toUInt64).toInt64).toInt32).toInt8.toInt32)), (.int (0 : Int32)), (.ref b11)])) rfl rfl (hb hby at_76)
      have N57 := Fr.snoc X57 NJ gb11
      have Z57 := Nat.le_trans ZJ (Keep.of_wr W57).1
      have K57 := Keep.wr KJ W57 (Or.inr sb11)
      refine Goes.go st57 ?_
      exact J77 X57 e57 N57 Z57 K57 (AL.other W57 ne45) ((A57).as (fun i hi => own_Pst rfl i))
    · skip
      refine Goes.go (fun _ kst => XS.ifYes XJ.here hx rfl (pc0 := 64) (pc' := 77) rfl (hb hby at_64) rfl ((if0 _ _).trans (flt hc64_56).2.2.2) (by decide) (by decide) kst) ?_
      have own_le : (¬ ((0 : Int32) < (Int32.ofNat n))) → n ≤ 0 := fun q => by have := mt (own_lt (i := 0) (n := n) (by decide) (by omega)).mpr q; omega
      exact J77 XJ eJ NJ ZJ KJ AL ((AB).as (fun i hi => own_Psk (own_le hc64_56) hi))
  exact J63 X11 e11 N10 Z11 K11 An12 ((A11).as (fun i hi => (if_neg (Nat.not_lt_zero i)).symm))
set_option maxRecDepth 65536 in
set_option maxHeartbeats 40000000 in
theorem comes_1 {Post : Tables → Env → Array Value → State → Outcome → State → Prop} (hpost : ∀ tb e args s v u, (limb_1_1.after args s (.returned v) u = true ∧ limb_1_2.after args s (.returned v) u = true ∧ True) → FrameEnd s (.returned v) u (Jvm.fieldLocs frame_1_writes args s ++ Jvm.arrayLocs frame_1_arrays args s ++ Jvm.staticLocs frame_1_statics s) 16 128 → Post tb e args s (.returned v) u) :
    ArmFor flags0 classFile x code maxLocals ret World_1 tables_1 room_1 Calls_1 rest_1 Pre_1 Post := by
  intro l hfl _ _ p e ha hc hk s m args below hf hA hF happ hP
  obtain ⟨hcalls, hrest, hpre⟩ := hP
  obtain ⟨-, -, -, hnamed, -, -, -, hat⟩ := (Spec.applies_iff hf).mp happ
  obtain ⟨hg, hn⟩ := and_e (Cond.before_iff.mp (show (Jvm.Cond.and given_1 narrow_1).before args s = true from hpre))
  obtain ⟨gc, gr0⟩ := and_e hg
  obtain ⟨w0, w1, rfl⟩ : ∃ w0 w1 : Value, args = #[w0, w1] := by
    have hs : args.size = 2 := by simpa [Cond.value, given_1] using gc
    obtain ⟨L⟩ := args
    match L, hs with
    | [w0, w1], _ => exact ⟨w0, w1, rfl⟩
  have hw := fun d (hd : d ∈ tables_1) => atoms_spec (ws := Jvm.Cond.code x code maxLocals ret :: tables_1) hat d (List.mem_cons_of_mem _ hd)
  have hfit : Fit s := fun {y c} hc i hi => by
    obtain ⟨ha, rfl⟩ := Array.getElem?_eq_some_iff.mp hc
    have q := List.all_eq_true.mp ((Array.all_eq_true_iff_forall_mem.mp hF) _ (Array.getElem_mem ha)) i (List.mem_range.mpr hi)
    simpa [Array.getElem?_eq_getElem hi] using q
  obtain ⟨ga0, gr1⟩ := and_e gr0
  obtain ⟨i0, ei0⟩ := is_v ga0
  obtain rfl : w0 = (.int i0) := Option.some.inj ei0
  obtain ⟨i1, ei1⟩ := isL_v gr1
  obtain rfl : w1 = (.long i1) := Option.some.inj ei1
  obtain ⟨n, o, h1, h2, h3, _, L, rfl, ⟨rfl, N⟩, hq⟩ := rm0 l s _ hw tables_1 i0 i1 s.heap s.heap.size (Nat.le_refl _) p e ha hc hk s m _ below hf ((Spec.applies_iff_loose hf).mp happ).1 ⟨rfl, State.Warmed39.refl s, rfl⟩ trivial
  refine ⟨n, _, h1, h2, h3, hpost _ _ _ _ _ _ ⟨Cond.after_iff.mpr rfl, Cond.after_iff.mpr (eq_i res_at (Term.int_eval (1)) rfl), trivial⟩ ⟨hq.1, hq.2.1, (hq.2.2.sift fun y hy => Or.inr (N y hy)).mono (by decide) (by decide)⟩⟩
theorem main_1_1 : Claimed_1_1 := comes_1 fun _ _ _ _ _ _ h hF => ⟨h.1, hF⟩
theorem main_1_2 : Claimed_1_2 := comes_1 fun _ _ _ _ _ _ h hF => ⟨h.2.1, hF⟩
end Jvm.Pilot.@@N@@
namespace Jvm.Pilot.@@N@@
open Jvm Jvm.ClassFile Sem Op Lib Jvm.Free Jvm.Stand Jvm.Pilot.@@N@@.Jvm.D
/-! MADE BY PROGRAM (witnessworld.py) out of the Statement's table words and the real class files: 9 classes; the members and pool entries that the words name. The judged class is class 1, her method 3. -/
namespace start1
open Jvm.ClassFile
def u (s : String) : CpInfo := .utf8 (stringToUtf16 s)
/-- a pool by its gaps: so many unusable entries, then the entry; so many at the end -/
def gap : Nat → List CpInfo → List CpInfo
  | 0, r => r
  | n + 1, r => .unusable :: gap n r
def poolList (es : List (Nat × CpInfo)) (last : Nat) : List CpInfo := es.foldr (fun e r => gap e.1 (e.2 :: r)) (gap last [])
def pool (es : List (Nat × CpInfo)) (last : Nat) : Array CpInfo := ⟨poolList es last⟩
def fileOf (pool : Array CpInfo) (this : Nat) (attrs : Array Attribute := #[]) (ms : Array MethodInfo := #[]) (fl : Nat := 33) (sup : Nat := 0) (ifs : Array Nat := #[]) (fds : Array FieldInfo := #[]) : ClassFile where
  minorVersion := 0
  majorVersion := 65
  constantPool := pool
  accessFlags := fl
  thisClass := this
  superClass := sup
  interfaces := ifs
  fields := fds
  methods := ms
  attributes := attrs
def plain (name : String) (sup : Option ClassId) : Class where
  name := name
  kind := .ordinary
  loader := none
  accessFlags := 33
  super := sup
  interfaces := #[]
  cf := none
  fields := #[]
  methods := #[]
  instanceTypes := #[]
  staticTypes := #[]
  resolved := #[]
  callSites := []
  init := .initialized
  statics := none
  mirror := none

def pool0 : Array CpInfo := pool [(5, u "<init>"), (0, u "()V"), (1, .class_ 10), (1, u "java/lang/Object")] 113

def k0m0 : Method := { name := "<init>", desc := "()V", sig := { parameters := [], returnType := none }, accessFlags := 1, code := none }
/-- java/lang/Object -/
def k0 : Class := { plain "java/lang/Object" none with
  accessFlags := 33
  interfaces := #[]
  cf := some (fileOf pool0 8 #[] #[{ accessFlags := 1, nameIndex := 5, descriptorIndex := 6, attributes := #[] }] 33 0 #[] #[])
  fields := #[]
  methods := #[k0m0]
  instanceTypes := #[]
  staticTypes := #[]
  resolved := Array.replicate 124 none
  statics := none }

def pool1 : Array CpInfo := pool [(2, .class_ 4), (1, u "java/lang/Object"), (0, u "<init>"), (0, u "()V"), (0, .long 31), (1, .methodref 10 11), (0, .class_ 12), (0, .nameAndType 13 14), (0, u "com/example/outpoint/outpoint/Bech32ToFiveBitPinLaw"), (0, u "expected"), (0, u "(IJ)I"), (0, .integer 2147483647), (0, .long 18446744073709551615), (1, .methodref 19 20), (0, .class_ 21), (0, .nameAndType 22 23), (0, u "com/example/outpoint/outpoint/Bech32"), (0, u "toFiveBit"), (0, u "([B)[I"), (0, .methodref 10 25), (0, .nameAndType 26 27), (0, u "at"), (0, u "([IIJ)Z"), (3, u "law"), (0, u "(IJ)Z")] 6

def k1m0 : Method := { name := "<init>", desc := "()V", sig := { parameters := [], returnType := none }, accessFlags := 2, code := none }
def k1c1 : Code := { maxStack := 5, maxLocals := 3, code := method_2_code, exceptionTable := #[], attributes := #[] }
def k1m1 : Method := { name := "expected", desc := "(IJ)I", sig := { parameters := [.int, .long], returnType := some .int }, accessFlags := 10, code := some k1c1 }
def k1c2 : Code := { maxStack := 4, maxLocals := 4, code := method_3_code, exceptionTable := #[], attributes := #[] }
def k1m2 : Method := { name := "at", desc := "([IIJ)Z", sig := { parameters := [(.array .int), .int, .long], returnType := some .boolean }, accessFlags := 10, code := some k1c2 }
def k1c3 : Code := { maxStack := 7, maxLocals := 9, code := code, exceptionTable := #[], attributes := #[] }
def k1m3 : Method := { name := "law", desc := "(IJ)Z", sig := { parameters := [.int, .long], returnType := some .boolean }, accessFlags := 9, code := some k1c3 }
/-- com/example/outpoint/outpoint/Bech32ToFiveBitPinLaw -/
def k1 : Class := { plain "com/example/outpoint/outpoint/Bech32ToFiveBitPinLaw" (some 0) with
  accessFlags := 49
  interfaces := #[]
  cf := some (fileOf pool1 10 #[] #[{ accessFlags := 2, nameIndex := 5, descriptorIndex := 6, attributes := #[] }, { accessFlags := 10, nameIndex := 13, descriptorIndex := 14, attributes := #[] }, { accessFlags := 10, nameIndex := 26, descriptorIndex := 27, attributes := #[] }, { accessFlags := 9, nameIndex := 31, descriptorIndex := 32, attributes := #[] }] 49 2 #[] #[])
  fields := #[]
  methods := #[k1m0, k1m1, k1m2, k1m3]
  instanceTypes := #[]
  staticTypes := #[]
  resolved := Array.replicate 39 none
  statics := none }

def pool2 : Array CpInfo := pool [(2, .class_ 4), (1, u "java/lang/Object"), (0, u "<init>"), (0, u "()V"), (0, .class_ 8), (0, u "com/example/outpoint/outpoint/Bech32"), (11, .class_ 22), (1, u "com/example/outpoint/outpoint/Bech32$Encoding"), (1, u "I"), (67, .class_ 93), (0, u "com/example/outpoint/outpoint/Bech32$Decoded"), (29, u "GENERATOR"), (0, u "[I"), (5, u "MAX_LENGTH"), (2, u "CHARSET"), (0, u "Ljava/lang/String;"), (0, u "SEPARATOR"), (0, u "C"), (1, u "CHECKSUM_LENGTH"), (1, u "FIRST_PRINTABLE"), (1, u "LAST_PRINTABLE"), (12, u "toFiveBit"), (0, u "([B)[I")] 25

def k2m0 : Method := { name := "<init>", desc := "()V", sig := { parameters := [], returnType := none }, accessFlags := 2, code := none }
def k2c1 : Code := { maxStack := 5, maxLocals := 9, code := prog_7_method_5_code, exceptionTable := #[], attributes := #[] }
def k2m1 : Method := { name := "toFiveBit", desc := "([B)[I", sig := { parameters := [(.array .byte)], returnType := some (.array .int) }, accessFlags := 8, code := some k2c1 }
/-- com/example/outpoint/outpoint/Bech32 -/
def k2 : Class := { plain "com/example/outpoint/outpoint/Bech32" (some 0) with
  accessFlags := 48
  interfaces := #[]
  cf := some (fileOf pool2 7 #[.nestMembers #[92, 20]] #[{ accessFlags := 2, nameIndex := 5, descriptorIndex := 6, attributes := #[] }, { accessFlags := 8, nameIndex := 155, descriptorIndex := 156, attributes := #[] }] 48 2 #[] #[{ accessFlags := 24, nameIndex := 130, descriptorIndex := 24, attributes := #[] }, { accessFlags := 26, nameIndex := 133, descriptorIndex := 134, attributes := #[] }, { accessFlags := 26, nameIndex := 135, descriptorIndex := 136, attributes := #[] }, { accessFlags := 26, nameIndex := 138, descriptorIndex := 24, attributes := #[] }, { accessFlags := 26, nameIndex := 123, descriptorIndex := 124, attributes := #[] }, { accessFlags := 26, nameIndex := 140, descriptorIndex := 136, attributes := #[] }, { accessFlags := 26, nameIndex := 142, descriptorIndex := 136, attributes := #[] }])
  fields := #[{ name := "MAX_LENGTH", type := .int, accessFlags := 24, slot := 0, constantValue := 0 }, { name := "CHARSET", type := (.object "java/lang/String"), accessFlags := 26, slot := 1, constantValue := 0 }, { name := "SEPARATOR", type := .char, accessFlags := 26, slot := 2, constantValue := 0 }, { name := "CHECKSUM_LENGTH", type := .int, accessFlags := 26, slot := 3, constantValue := 0 }, { name := "GENERATOR", type := (.array .int), accessFlags := 26, slot := 4, constantValue := 0 }, { name := "FIRST_PRINTABLE", type := .char, accessFlags := 26, slot := 5, constantValue := 0 }, { name := "LAST_PRINTABLE", type := .char, accessFlags := 26, slot := 6, constantValue := 0 }]
  methods := #[k2m0, k2m1]
  instanceTypes := #[]
  staticTypes := #[.int, (.object "java/lang/String"), .char, .int, (.array .int), .char, .char]
  resolved := Array.replicate 182 none
  statics := none }

def pool3 : Array CpInfo := pool [(1, u "java/lang/Cloneable"), (0, .class_ 1), (0, u "java/lang/Object"), (0, .class_ 3)] 3

/-- java/lang/Cloneable -/
def k3 : Class := { plain "java/lang/Cloneable" (some 0) with
  accessFlags := 1537
  interfaces := #[]
  cf := some (fileOf pool3 2 #[] #[] 1537 4 #[] #[])
  fields := #[]
  methods := #[]
  instanceTypes := #[]
  staticTypes := #[]
  resolved := Array.replicate 8 none
  statics := none }

def pool4 : Array CpInfo := pool [(1, u "java/io/Serializable"), (0, .class_ 1), (0, u "java/lang/Object"), (0, .class_ 3)] 3

/-- java/io/Serializable -/
def k4 : Class := { plain "java/io/Serializable" (some 0) with
  accessFlags := 1537
  interfaces := #[]
  cf := some (fileOf pool4 2 #[] #[] 1537 4 #[] #[])
  fields := #[]
  methods := #[]
  instanceTypes := #[]
  staticTypes := #[]
  resolved := Array.replicate 8 none
  statics := none }

/-- the primitive byte -/
def k5 : Class := { plain "byte" none with kind := .primitive 'B', accessFlags := 0x411 }
/-- [B -/
def k6 : Class := { plain "[B" (some 0) with kind := .array 5 .byte, interfaces := #[3, 4], accessFlags := 1041 }

/-- the primitive int -/
def k7 : Class := { plain "int" none with kind := .primitive 'I', accessFlags := 0x411 }
/-- [I -/
def k8 : Class := { plain "[I" (some 0) with kind := .array 7 .int, interfaces := #[3, 4], accessFlags := 1041 }

def heap : Heap := #[]
def classes : Array Class := #[k0, k1, k2, k3, k4, k5, k6, k7, k8]
def interned : List (Array UInt16 × Addr) := []
def slotsUsed : Nat := 0
def theMethod : MethodId := ⟨1, 3⟩
def args0 : Array Value := #[.int 5, .long 5]
def aboutOver (below : List Frame) : State where
  vm := { classes := classes, interned := interned.toArray }
  heap := heap
  slotsUsed := slotsUsed
  threads := #[{ frames := .invoking theMethod args0 :: below }]
def below0 : List Frame := [.native { method := ⟨0, 0⟩, args := #[] }]
def about1 : State := aboutOver below0
def p0 : Program := .bare "" "" ""
def e0 : Env := launch0.env 0 0 0
theorem w_frames : about1.frames = Frame.invoking theMethod args0 :: below0 := rfl
set_option maxRecDepth 65536 in
theorem w_args : argsFit about1.vm theMethod args0 = true := by decide +kernel
set_option maxRecDepth 65536 in
theorem w_heap : heapFits about1 = true := by decide +kernel
set_option maxRecDepth 65536 in
theorem w_runnable : about1.curStatus? = some .runnable := by decide +kernel
set_option maxRecDepth 65536 in
theorem w_alone : about1.alone = true := by decide +kernel
set_option maxRecDepth 65536 in
theorem w_named : about1.methodNamed? x = some theMethod := by decide +kernel
set_option maxRecDepth 65536 in
theorem w_hears : about1.hears theMethod below0 = true := by decide +kernel
set_option maxRecDepth 65536 in
theorem w_ripe : about1.ripe theMethod args0 below0 = true := by decide +kernel
theorem w_running : about1.status = .running := rfl
set_option maxRecDepth 65536 in
theorem w_room : about1.hasRoom e0.platform room_1 = true :=
  launch0.hasRoom_least _ room_1 (by decide +kernel) (by decide +kernel) (by decide +kernel) (by decide +kernel) (by decide +kernel) (by decide +kernel)
theorem allAtoms_all (ts : List Jvm.Cond) (a : Array Jvm.Value) (st : Jvm.State) : (allAtoms ts).before a st = ts.all (fun c => c.before a st) := by
  induction ts with
  | nil => rfl
  | cons c t ih =>
    show (Jvm.Cond.and c (allAtoms t)).before a st = _
    rw [Jvm.Cond.before_and, ih, List.all_cons]
def words1 : List Jvm.Cond := Jvm.Cond.code x code maxLocals ret :: tables_1
/-- a 'code' word, met by the world's own term for the bytes: nothing is compared byte by byte -/
theorem code_word {y : MethodName} {bytes : ByteArray} {mx : Nat} {rt : Option FieldType} {a : Array Value} {s : State} {m : MethodId} {meth : Method} {c : Code} (h1 : s.methodNamed? y = some m) (h2 : s.vm.method? m = some meth) (h3 : meth.code = some c) (h4 : c.code = bytes)
    (h5 : (c.maxLocals == mx && c.exceptionTable.isEmpty && decide (c.maxStack ≤ mostOperands) && decide (meth.sig.returnType = rt) && !meth.locks && decide (parseMethodDescriptor y.desc = some meth.sig)) = true) : (Jvm.Cond.code y bytes mx rt).before a s = true := by
  simp only [Bool.and_eq_true, beq_iff_eq, Bool.not_eq_true', decide_eq_true_eq] at h5
  obtain ⟨⟨⟨⟨⟨g1, g2⟩, g3⟩, g4⟩, g5⟩, g6⟩ := h5
  simp [Cond.before, Cond.holds, Cond.value, h1, h2, h3, h4, g1, g2, g3, g4, g5, g6]
def isCode : Jvm.Cond → Bool
  | .code _ _ _ _ => true
  | _ => false
theorem all_split {L : List Jvm.Cond} {P : Jvm.Cond → Bool} (h1 : L.all (fun c => isCode c || P c) = true) (h2 : ∀ c ∈ L.filter isCode, P c = true) : L.all P = true := by
  refine List.all_eq_true.mpr fun c hc => ?_
  have h := List.all_eq_true.mp h1 c hc
  rcases Bool.eq_false_or_eq_true (isCode c) with hi | hi
  · exact h2 c (List.mem_filter.mpr ⟨hc, hi⟩)
  · simpa [hi] using h
set_option maxRecDepth 65536 in
theorem w_c0 : (Jvm.Cond.code x code maxLocals ret).before args0 about1 = true := code_word (m := ⟨1, 3⟩) (meth := k1m3) (c := k1c3) (by decide +kernel) rfl rfl rfl (by decide +kernel)
set_option maxRecDepth 65536 in
theorem w_c1 : (Jvm.Cond.code ({ cls := "com/example/outpoint/outpoint/Bech32", name := "toFiveBit", desc := "([B)[I" } : Jvm.MethodName) prog_7_method_5_code (9 : Nat) (Option.some (Jvm.ClassFile.FieldType.array Jvm.ClassFile.FieldType.int))).before args0 about1 = true := code_word (m := ⟨2, 1⟩) (meth := k2m1) (c := k2c1) (by decide +kernel) rfl rfl rfl (by decide +kernel)
set_option maxRecDepth 65536 in
theorem w_c2 : (Jvm.Cond.code ({ cls := "com/example/outpoint/outpoint/Bech32ToFiveBitPinLaw", name := "at", desc := "([IIJ)Z" } : Jvm.MethodName) method_3_code (4 : Nat) (Option.some Jvm.ClassFile.FieldType.boolean)).before args0 about1 = true := code_word (m := ⟨1, 2⟩) (meth := k1m2) (c := k1c2) (by decide +kernel) rfl rfl rfl (by decide +kernel)
set_option maxRecDepth 65536 in
theorem w_c3 : (Jvm.Cond.code ({ cls := "com/example/outpoint/outpoint/Bech32ToFiveBitPinLaw", name := "expected", desc := "(IJ)I" } : Jvm.MethodName) method_2_code (3 : Nat) (Option.some Jvm.ClassFile.FieldType.int)).before args0 about1 = true := code_word (m := ⟨1, 1⟩) (meth := k1m1) (c := k1c1) (by decide +kernel) rfl rfl rfl (by decide +kernel)
def codes1 : List Jvm.Cond := [Jvm.Cond.code x code maxLocals ret, Jvm.Cond.code ({ cls := "com/example/outpoint/outpoint/Bech32", name := "toFiveBit", desc := "([B)[I" } : Jvm.MethodName) prog_7_method_5_code (9 : Nat) (Option.some (Jvm.ClassFile.FieldType.array Jvm.ClassFile.FieldType.int)), Jvm.Cond.code ({ cls := "com/example/outpoint/outpoint/Bech32ToFiveBitPinLaw", name := "at", desc := "([IIJ)Z" } : Jvm.MethodName) method_3_code (4 : Nat) (Option.some Jvm.ClassFile.FieldType.boolean), Jvm.Cond.code ({ cls := "com/example/outpoint/outpoint/Bech32ToFiveBitPinLaw", name := "expected", desc := "(IJ)I" } : Jvm.MethodName) method_2_code (3 : Nat) (Option.some Jvm.ClassFile.FieldType.int)]
set_option maxRecDepth 65536 in
theorem codes_eq : words1.filter isCode = codes1 := rfl
theorem w_codes : ∀ c ∈ words1.filter isCode, c.before args0 about1 = true := by
  rw [codes_eq]
  intro c hc
  simp only [codes1, List.mem_cons, List.not_mem_nil, or_false] at hc
  rcases hc with rfl | rfl | rfl | rfl
  · exact w_c0
  · exact w_c1
  · exact w_c2
  · exact w_c3
set_option maxRecDepth 65536 in
theorem w_t1 : words1.all (fun c => isCode c || c.before args0 about1) = true := by decide +kernel
theorem w_tables : (allAtoms (Jvm.Cond.code x code maxLocals ret :: tables_1)).before args0 about1 = true := by
  rw [allAtoms_all]
  show words1.all (fun c => c.before args0 about1) = true
  refine all_split ?_ w_codes
  rw [w_t1]
set_option maxRecDepth 65536 in
theorem w_case : (Jvm.Cond.and given_1 narrow_1).before args0 about1 = true := by decide +kernel
theorem w_applies : (headSpec (Jvm.Cond.code x code maxLocals ret :: tables_1) room_1).applies x e0.platform about1 = true :=
  (Spec.applies_iff w_frames).mpr ⟨w_running, w_runnable, w_alone, w_named, w_hears, w_ripe, w_room, w_tables⟩
theorem atStart : AtStart classFile x code maxLocals ret World_1 tables_1 room_1 Calls_1 rest_1 Pre_1 launch0 p0 e0 about1 theMethod args0 below0 :=
  ⟨lists_1, trivial, launch0.admits_env _ _ _, launch0.least_env, fairChoices_fair.cas, fairChoices_fair.clock, w_frames, w_args, w_heap, w_applies, trivial, trivial, w_case⟩
end start1
theorem witness_1 : WitnessClaimed_1 := ⟨start1.p0, start1.e0, start1.about1, start1.theMethod, start1.args0, start1.below0, start1.atStart⟩
end Jvm.Pilot.@@N@@
