import JvmDerived
import JvmDerived.Pilot.@@N@@Statement
import JvmDerived.Pilot.@@N@@Code
set_option linter.unusedVariables false
set_option linter.unusedSimpArgs false
set_option maxRecDepth 65536
set_option maxHeartbeats 4000000
namespace Jvm.Pilot.@@N@@
open Jvm Jvm.ClassFile Sem Op Lib Jvm.Free Jvm.Stand Jvm.LawKit Jvm.RoadKit Bundle Jvm.Pilot.@@N@@.Jvm.D
/-! own layer: the walk's goal as one word (Run), a callee's contract (Con), one lemma a step -/
abbrev ush32 (x y : Int32) : Int32 := (x.toUInt32 >>> (y &&& 31).toUInt32).toInt32
abbrev ush64 (x : Int64) (y : Int32) : Int64 := (x.toUInt64 >>> (y &&& 63).toInt64.toUInt64).toInt64
abbrev Cx : Type := Program × Launch × Env × State × MethodId × Array Value × List Frame × Method × ClassFile.Code
abbrev Cx.p (C : Cx) : Program := C.1
abbrev Cx.l (C : Cx) : Launch := C.2.1
abbrev Cx.e (C : Cx) : Env := C.2.2.1
abbrev Cx.s (C : Cx) : State := C.2.2.2.1
abbrev Cx.m (C : Cx) : MethodId := C.2.2.2.2.1
abbrev Cx.a (C : Cx) : Array Value := C.2.2.2.2.2.1
abbrev Cx.bl (C : Cx) : List Frame := C.2.2.2.2.2.2.1
abbrev Cx.mt (C : Cx) : Method := C.2.2.2.2.2.2.2.1
abbrev Cx.c (C : Cx) : ClassFile.Code := C.2.2.2.2.2.2.2.2
def EndK (w : Bool) (s : State) (o : Outcome) (t : State) (L : List Loc) (k n : Nat) : Prop := match w with
  | true => ReturnedEndW s o t L k n
  | false => FrameEnd s o t L k n
/-- what stands still during a body's walk -/
def Stn (C : Cx) (Z : State) (own : String) (by_ : ByteArray) (mL : Nat) (rt : Option FieldType) (nm : String) (q : Nat) : Prop :=
  C.p.tables.exec = Jvm.exec ∧ C.c.code = by_ ∧ C.c.maxLocals = mL ∧ C.mt.sig.returnType = rt ∧ C.mt.locks = false ∧ C.mt.name = nm ∧ C.s.heap.size = q ∧ Ext Z.heap C.s.heap ∧ C.s.vm.findClass own = some C.m.cls
/-- where the walk stands -/
def Pos (C : Cx) (Z : State) (R : Room) (w : Bool) (b : Nat) (Ts : List String) (Li : List (String × Nat × Addr)) (h : Heap) (k n : Nat) (T : State) (vm0 : Vm) (locs : List Loc) : Prop :=
  Stand C.p C.l C.e R (C.s.setVm vm0) C.m C.a C.bl C.mt C.c T locs k n ∧ Z.Warmed39 vm0 ∧ T.heap = h ∧ C.s.Since vm0 h.size ∧ IB Z vm0 Ts ∧ (w = false → vm0 = C.s.vm) ∧ Fr b locs ∧ Z.heap.size ≤ b ∧ Ext Z.heap h ∧ C.s.heap.size ≤ h.size ∧ ∀ x ∈ Li, Lit (C.s.setVm vm0) x.1 x.2.1 x.2.2
/-- what the walk must come to -/
def Gl (C : Cx) (Z : State) (R : Room) (w : Bool) (To : List String) (f : Nat) (Q : Option Value → Heap → Prop) (st : State) : Prop :=
  ∃ s₂ o, Steps C.p.tables C.e C.bl st s₂ ∧ s₂.status = .running ∧ Ended s₂ C.bl o ∧ ∃ v L, o = .returned v ∧ (Q v s₂.heap ∧ Fr f L ∧ Ext Z.heap s₂.heap ∧ IB Z s₂.vm To) ∧ EndK w C.s o s₂ L R.cells R.slots
def Run (C : Cx) (Z : State) (R : Room) (w : Bool) (To : List String) (f : Nat) (Q : Option Value → Heap → Prop) (b : Nat) (Ts : List String) (Li : List (String × Nat × Addr)) (h : Heap) (k n : Nat) (pc : Nat) (L : Array Slot) (S : List Value) : Prop :=
  ∀ T vm0 locs, Pos C Z R w b Ts Li h k n T vm0 locs → Gl C Z R w To f Q (T.setTop (mkF C.m pc L S))
/-- a callee's contract -/
def Con (w : Bool) (ws : List Jvm.Cond) (Z : State) (y : MethodName) (yb : ByteArray) (ymL : Nat) (yrt : Option FieldType) (Ry : Room) (Ti To : List String) (f : Nat) (as : Array Value) (h : Heap) (Q : Option Value → Heap → Prop) : Prop :=
  ∀ l, MetFree l y (head1 (Jvm.Cond.code y yb ymL yrt :: ws) Ry) (fun a U => a = as ∧ Z.Warmed39 U.vm ∧ U.heap = h ∧ IB Z U.vm Ti ∧ Ext Z.heap h) (fun _ _ _ _ _ => True)
    (fun _ U o U' => ∃ v L, o = .returned v ∧ (Q v U'.heap ∧ Fr f L ∧ Ext Z.heap U'.heap ∧ IB Z U'.vm To) ∧ EndK w U o U' L Ry.cells Ry.slots)
theorem ib_same {Z : State} {vm0 vm1 : Vm} {Ts : List String} (I : IB Z vm0 Ts) (h : vm1.interned = vm0.interned) : IB Z vm1 Ts := by
  obtain ⟨m, h1, h2⟩ := I; exact ⟨m, h.trans h1, h2⟩
theorem ib_mono {Z : State} {vm0 : Vm} {Ts To : List String} (I : IB Z vm0 Ts) (h : ∀ t ∈ Ts, t ∈ To) : IB Z vm0 To := by
  obtain ⟨m, h1, h2⟩ := I; exact ⟨m, h1, fun q hq => by obtain ⟨t, a, c⟩ := h2 q hq; exact ⟨t, h t a, c⟩⟩
theorem fr_low {k k' : Nat} {L : List Loc} (N : Fr k L) (h : k' ≤ k) : Fr k' L := fun y hy => Nat.le_trans h (N y hy)
theorem since_same {s : State} {vm : Vm} {n n' : Nat} (h : s.Since vm n) (hn : n ≤ n') : s.Since vm n' := ⟨h.1, fun j p hj hp => ⟨(h.2 j p hj hp).1, Nat.lt_of_lt_of_le (h.2 j p hj hp).2 hn⟩⟩
section Walk
variable {C : Cx} {Z : State} {a0 : Array Value} {own : String} {by_ : ByteArray} {mL : Nat} {rt : Option FieldType} {nm : String} {q : Nat} {R : Room} {w : Bool} {To : List String} {f : Nat} {Q : Option Value → Heap → Prop} {b : Nat} {Ts : List String} {Li : List (String × Nat × Addr)} {h : Heap} {k n pc : Nat} {L : Array Slot} {S : List Value}
theorem Run.one {pc' : Nat} {L' : Array Slot} {S' : List Value} (g : ∀ T vm0 locs t, Stand C.p C.l C.e R (C.s.setVm vm0) C.m C.a C.bl C.mt C.c T locs k n → Steps C.p.tables C.e C.bl (T.setTop (mkF C.m pc' L' S')) t → Steps C.p.tables C.e C.bl (T.setTop (mkF C.m pc L S)) t)
    (kk : Run C Z R w To f Q b Ts Li h k n pc' L' S') : Run C Z R w To f Q b Ts Li h k n pc L S := fun T vm0 locs P => by
  obtain ⟨s₂, o, h1, r⟩ := kk T vm0 locs P
  exact ⟨s₂, o, g T vm0 locs _ P.1 h1, r⟩
theorem Stn.dec (H : Stn C Z own by_ mL rt nm q) {pc : Nat} {r : Except ClassFile.DecodeError (Instr × Nat)} (hd : decode by_ pc = r) : decode C.c.code pc = r := by rw [H.2.1]; exact hd
theorem Stn.cl (H : Stn C Z own by_ mL rt nm q) {vm0 : Vm} (hS : C.s.Since vm0 k) : (C.s.setVm vm0).vm.findClass own = some C.m.cls := by
  show vm0.findClass own = _
  rw [hS.1.alike.findClass]; exact H.2.2.2.2.2.2.2.2
theorem Run.low {b' : Nat} (hb : b' ≤ b) (hz : Z.heap.size ≤ b') (kk : Run C Z R w To f Q b' Ts Li h k n pc L S) : Run C Z R w To f Q b Ts Li h k n pc L S := fun T vm0 locs P => by
  obtain ⟨P1, P2, P3, P4, P5, P6, P7, P8, P9⟩ := P
  exact kk T vm0 locs ⟨P1, P2, P3, P4, P5, P6, fr_low P7 hb, hz, P9⟩
/-- what may be read off the place itself -/
theorem Run.get (kk : Ext Z.heap h → Z.heap.size ≤ b → Run C Z R w To f Q b Ts Li h k n pc L S) : Run C Z R w To f Q b Ts Li h k n pc L S := fun T vm0 locs P => kk P.2.2.2.2.2.2.2.2.1 P.2.2.2.2.2.2.2.1 T vm0 locs P
theorem r_iloadN (H : Stn C Z own by_ mL rt nm q) (pc' : Nat) {i : Fin 4} {v : Int32} (hd : decode by_ pc = .ok (.iload_n i, 1)) (hv : L[i.val]? = some (.val (.int v))) (hp : pc' = pc + 1) (kk : Run C Z R w To f Q b Ts Li h k n pc' L (.int v :: S)) : Run C Z R w To f Q b Ts Li h k n pc L (S) := by
  subst hp
  exact kk.one fun T vm0 locs t X kt => XS.iloadN X.here H.1 rfl (H.dec hd) hv kt
theorem r_iload (H : Stn C Z own by_ mL rt nm q) (pc' : Nat) {i : Nat} {v : Int32} (hd : decode by_ pc = .ok (.iload i, 2)) (hv : L[i]? = some (.val (.int v))) (hp : pc' = pc + 2) (kk : Run C Z R w To f Q b Ts Li h k n pc' L (.int v :: S)) : Run C Z R w To f Q b Ts Li h k n pc L (S) := by
  subst hp
  exact kk.one fun T vm0 locs t X kt => XS.iload X.here H.1 rfl (H.dec hd) hv kt
theorem r_lloadN (H : Stn C Z own by_ mL rt nm q) (pc' : Nat) {i : Fin 4} {v : Int64} (hd : decode by_ pc = .ok (.lload_n i, 1)) (hv : L[i.val]? = some (.val (.long v))) (hp : pc' = pc + 1) (kk : Run C Z R w To f Q b Ts Li h k n pc' L (.long v :: S)) : Run C Z R w To f Q b Ts Li h k n pc L (S) := by
  subst hp
  exact kk.one fun T vm0 locs t X kt => XS.lloadN X.here H.1 rfl (H.dec hd) hv kt
theorem r_lload (H : Stn C Z own by_ mL rt nm q) (pc' : Nat) {i : Nat} {v : Int64} (hd : decode by_ pc = .ok (.lload i, 2)) (hv : L[i]? = some (.val (.long v))) (hp : pc' = pc + 2) (kk : Run C Z R w To f Q b Ts Li h k n pc' L (.long v :: S)) : Run C Z R w To f Q b Ts Li h k n pc L (S) := by
  subst hp
  exact kk.one fun T vm0 locs t X kt => XS.lload X.here H.1 rfl (H.dec hd) hv kt
theorem r_aloadN (H : Stn C Z own by_ mL rt nm q) (pc' : Nat) {i : Fin 4} {v : Value} (hd : decode by_ pc = .ok (.aload_n i, 1)) (hv : L[i.val]? = some (.val v)) (hr : v.isRef = true) (hp : pc' = pc + 1) (kk : Run C Z R w To f Q b Ts Li h k n pc' L (v :: S)) : Run C Z R w To f Q b Ts Li h k n pc L (S) := by
  subst hp
  exact kk.one fun T vm0 locs t X kt => XS.aloadN X.here H.1 rfl (H.dec hd) hv hr kt
theorem r_aload (H : Stn C Z own by_ mL rt nm q) (pc' : Nat) {i : Nat} {v : Value} (hd : decode by_ pc = .ok (.aload i, 2)) (hv : L[i]? = some (.val v)) (hr : v.isRef = true) (hp : pc' = pc + 2) (kk : Run C Z R w To f Q b Ts Li h k n pc' L (v :: S)) : Run C Z R w To f Q b Ts Li h k n pc L (S) := by
  subst hp
  exact kk.one fun T vm0 locs t X kt => XS.aload X.here H.1 rfl (H.dec hd) hv hr kt
theorem r_istoreN (H : Stn C Z own by_ mL rt nm q) (pc' : Nat) (L' : Array Slot) {i : Fin 4} {x : Int32} (hd : decode by_ pc = .ok (.istore_n i, 1)) (hl : storeLocals L i.val (.int x) = some L') (hp : pc' = pc + 1) (kk : Run C Z R w To f Q b Ts Li h k n pc' L' (S)) : Run C Z R w To f Q b Ts Li h k n pc L (.int x :: S) := by
  subst hp
  exact kk.one fun T vm0 locs t X kt => XS.istoreN X.here H.1 rfl (H.dec hd) rfl hl kt
theorem r_istore (H : Stn C Z own by_ mL rt nm q) (pc' : Nat) (L' : Array Slot) {i : Nat} {x : Int32} (hd : decode by_ pc = .ok (.istore i, 2)) (hl : storeLocals L i (.int x) = some L') (hp : pc' = pc + 2) (kk : Run C Z R w To f Q b Ts Li h k n pc' L' (S)) : Run C Z R w To f Q b Ts Li h k n pc L (.int x :: S) := by
  subst hp
  exact kk.one fun T vm0 locs t X kt => XS.istore X.here H.1 rfl (H.dec hd) rfl hl kt
theorem r_lstoreN (H : Stn C Z own by_ mL rt nm q) (pc' : Nat) (L' : Array Slot) {i : Fin 4} {x : Int64} (hd : decode by_ pc = .ok (.lstore_n i, 1)) (hl : storeLocals L i.val (.long x) = some L') (hp : pc' = pc + 1) (kk : Run C Z R w To f Q b Ts Li h k n pc' L' (S)) : Run C Z R w To f Q b Ts Li h k n pc L (.long x :: S) := by
  subst hp
  exact kk.one fun T vm0 locs t X kt => XS.lstoreN X.here H.1 rfl (H.dec hd) rfl hl kt
theorem r_lstore (H : Stn C Z own by_ mL rt nm q) (pc' : Nat) (L' : Array Slot) {i : Nat} {x : Int64} (hd : decode by_ pc = .ok (.lstore i, 2)) (hl : storeLocals L i (.long x) = some L') (hp : pc' = pc + 2) (kk : Run C Z R w To f Q b Ts Li h k n pc' L' (S)) : Run C Z R w To f Q b Ts Li h k n pc L (.long x :: S) := by
  subst hp
  exact kk.one fun T vm0 locs t X kt => XS.lstore X.here H.1 rfl (H.dec hd) rfl hl kt
theorem r_astoreN (H : Stn C Z own by_ mL rt nm q) (pc' : Nat) (L' : Array Slot) {i : Fin 4} {x : Value} (hd : decode by_ pc = .ok (.astore_n i, 1)) (hr : x.isRef = true) (hl : storeLocals L i.val x = some L') (hp : pc' = pc + 1) (kk : Run C Z R w To f Q b Ts Li h k n pc' L' (S)) : Run C Z R w To f Q b Ts Li h k n pc L (x :: S) := by
  subst hp
  exact kk.one fun T vm0 locs t X kt => XS.astoreN X.here H.1 rfl (H.dec hd) rfl hr hl kt
theorem r_astore (H : Stn C Z own by_ mL rt nm q) (pc' : Nat) (L' : Array Slot) {i : Nat} {x : Value} (hd : decode by_ pc = .ok (.astore i, 2)) (hr : x.isRef = true) (hl : storeLocals L i x = some L') (hp : pc' = pc + 2) (kk : Run C Z R w To f Q b Ts Li h k n pc' L' (S)) : Run C Z R w To f Q b Ts Li h k n pc L (x :: S) := by
  subst hp
  exact kk.one fun T vm0 locs t X kt => XS.astore X.here H.1 rfl (H.dec hd) rfl hr hl kt
theorem r_iinc (H : Stn C Z own by_ mL rt nm q) (pc' : Nat) (L' : Array Slot) {i : Nat} {cst : Int} {x : Int32} (y : Int32) (hd : decode by_ pc = .ok (.iinc i cst, 3)) (hv : L[i]? = some (.val (.int x))) (hy : x + Int32.ofInt cst = y) (hl : storeLocals L i (.int y) = some L') (hp : pc' = pc + 3) (kk : Run C Z R w To f Q b Ts Li h k n pc' L' (S)) : Run C Z R w To f Q b Ts Li h k n pc L (S) := by
  subst hp
  subst hy
  exact kk.one fun T vm0 locs t X kt => XS.iinc X.here H.1 rfl (H.dec hd) hv hl kt
theorem r_iconst (H : Stn C Z own by_ mL rt nm q) (pc' : Nat) (x : Int32) {i : Int} (hd : decode by_ pc = .ok (.iconst i, 1)) (hv : Int32.ofInt i = x) (hp : pc' = pc + 1) (kk : Run C Z R w To f Q b Ts Li h k n pc' L (.int x :: S)) : Run C Z R w To f Q b Ts Li h k n pc L (S) := by
  subst hp
  subst hv
  exact kk.one fun T vm0 locs t X kt => XS.iconst X.here H.1 rfl (H.dec hd)  kt
theorem r_bipush (H : Stn C Z own by_ mL rt nm q) (pc' : Nat) (x : Int32) {i : Int} (hd : decode by_ pc = .ok (.bipush i, 2)) (hv : (Int8.ofInt i).toInt32 = x) (hp : pc' = pc + 2) (kk : Run C Z R w To f Q b Ts Li h k n pc' L (.int x :: S)) : Run C Z R w To f Q b Ts Li h k n pc L (S) := by
  subst hp
  subst hv
  exact kk.one fun T vm0 locs t X kt => XS.bipush X.here H.1 rfl (H.dec hd)  kt
theorem r_sipush (H : Stn C Z own by_ mL rt nm q) (pc' : Nat) (x : Int32) {i : Int} (hd : decode by_ pc = .ok (.sipush i, 3)) (hv : (Int16.ofInt i).toInt32 = x) (hp : pc' = pc + 3) (kk : Run C Z R w To f Q b Ts Li h k n pc' L (.int x :: S)) : Run C Z R w To f Q b Ts Li h k n pc L (S) := by
  subst hp
  subst hv
  exact kk.one fun T vm0 locs t X kt => XS.sipush X.here H.1 rfl (H.dec hd)  kt
theorem r_lconst (H : Stn C Z own by_ mL rt nm q) (pc' : Nat) (x : Int64) {i : Fin 2} (hd : decode by_ pc = .ok (.lconst i, 1)) (hv : Int64.ofNat i = x) (hp : pc' = pc + 1) (kk : Run C Z R w To f Q b Ts Li h k n pc' L (.long x :: S)) : Run C Z R w To f Q b Ts Li h k n pc L (S) := by
  subst hp
  subst hv
  exact kk.one fun T vm0 locs t X kt => XS.lconst X.here H.1 rfl (H.dec hd)  kt
theorem r_null (H : Stn C Z own by_ mL rt nm q) (pc' : Nat)  (hd : decode by_ pc = .ok (.aconst_null, 1))  (hp : pc' = pc + 1) (kk : Run C Z R w To f Q b Ts Li h k n pc' L (.null :: S)) : Run C Z R w To f Q b Ts Li h k n pc L (S) := by
  subst hp
  exact kk.one fun T vm0 locs t X kt => XS.aconstNull X.here H.1 rfl (H.dec hd)  kt
theorem r_iadd (H : Stn C Z own by_ mL rt nm q) (pc' : Nat) (z : Int32) {x y : Int32} (hd : decode by_ pc = .ok (.iadd, 1)) (hz : (x + y) = z) (hp : pc' = pc + 1) (kk : Run C Z R w To f Q b Ts Li h k n pc' L (.int z :: S)) : Run C Z R w To f Q b Ts Li h k n pc L (.int y :: .int x :: S) := by
  subst hp
  subst hz
  exact kk.one fun T vm0 locs t X kt => XS.iadd X.here H.1 rfl (H.dec hd) rfl kt
theorem r_isub (H : Stn C Z own by_ mL rt nm q) (pc' : Nat) (z : Int32) {x y : Int32} (hd : decode by_ pc = .ok (.isub, 1)) (hz : (x - y) = z) (hp : pc' = pc + 1) (kk : Run C Z R w To f Q b Ts Li h k n pc' L (.int z :: S)) : Run C Z R w To f Q b Ts Li h k n pc L (.int y :: .int x :: S) := by
  subst hp
  subst hz
  exact kk.one fun T vm0 locs t X kt => XS.isub X.here H.1 rfl (H.dec hd) rfl kt
theorem r_imul (H : Stn C Z own by_ mL rt nm q) (pc' : Nat) (z : Int32) {x y : Int32} (hd : decode by_ pc = .ok (.imul, 1)) (hz : (x * y) = z) (hp : pc' = pc + 1) (kk : Run C Z R w To f Q b Ts Li h k n pc' L (.int z :: S)) : Run C Z R w To f Q b Ts Li h k n pc L (.int y :: .int x :: S) := by
  subst hp
  subst hz
  exact kk.one fun T vm0 locs t X kt => XS.imul X.here H.1 rfl (H.dec hd) rfl kt
theorem r_iand (H : Stn C Z own by_ mL rt nm q) (pc' : Nat) (z : Int32) {x y : Int32} (hd : decode by_ pc = .ok (.iand, 1)) (hz : (x &&& y) = z) (hp : pc' = pc + 1) (kk : Run C Z R w To f Q b Ts Li h k n pc' L (.int z :: S)) : Run C Z R w To f Q b Ts Li h k n pc L (.int y :: .int x :: S) := by
  subst hp
  subst hz
  exact kk.one fun T vm0 locs t X kt => XS.iand X.here H.1 rfl (H.dec hd) rfl kt
theorem r_ior (H : Stn C Z own by_ mL rt nm q) (pc' : Nat) (z : Int32) {x y : Int32} (hd : decode by_ pc = .ok (.ior, 1)) (hz : (x ||| y) = z) (hp : pc' = pc + 1) (kk : Run C Z R w To f Q b Ts Li h k n pc' L (.int z :: S)) : Run C Z R w To f Q b Ts Li h k n pc L (.int y :: .int x :: S) := by
  subst hp
  subst hz
  exact kk.one fun T vm0 locs t X kt => XS.ior X.here H.1 rfl (H.dec hd) rfl kt
theorem r_ixor (H : Stn C Z own by_ mL rt nm q) (pc' : Nat) (z : Int32) {x y : Int32} (hd : decode by_ pc = .ok (.ixor, 1)) (hz : (x ^^^ y) = z) (hp : pc' = pc + 1) (kk : Run C Z R w To f Q b Ts Li h k n pc' L (.int z :: S)) : Run C Z R w To f Q b Ts Li h k n pc L (.int y :: .int x :: S) := by
  subst hp
  subst hz
  exact kk.one fun T vm0 locs t X kt => XS.ixor X.here H.1 rfl (H.dec hd) rfl kt
theorem r_ishl (H : Stn C Z own by_ mL rt nm q) (pc' : Nat) (z : Int32) {x y : Int32} (hd : decode by_ pc = .ok (.ishl, 1)) (hz : (x <<< (y &&& 31)) = z) (hp : pc' = pc + 1) (kk : Run C Z R w To f Q b Ts Li h k n pc' L (.int z :: S)) : Run C Z R w To f Q b Ts Li h k n pc L (.int y :: .int x :: S) := by
  subst hp
  subst hz
  exact kk.one fun T vm0 locs t X kt => XS.ishl X.here H.1 rfl (H.dec hd) rfl kt
theorem r_ishr (H : Stn C Z own by_ mL rt nm q) (pc' : Nat) (z : Int32) {x y : Int32} (hd : decode by_ pc = .ok (.ishr, 1)) (hz : (x >>> (y &&& 31)) = z) (hp : pc' = pc + 1) (kk : Run C Z R w To f Q b Ts Li h k n pc' L (.int z :: S)) : Run C Z R w To f Q b Ts Li h k n pc L (.int y :: .int x :: S) := by
  subst hp
  subst hz
  exact kk.one fun T vm0 locs t X kt => XS.ishr X.here H.1 rfl (H.dec hd) rfl kt
theorem r_iushr (H : Stn C Z own by_ mL rt nm q) (pc' : Nat) (z : Int32) {x y : Int32} (hd : decode by_ pc = .ok (.iushr, 1)) (hz : (ush32 x y) = z) (hp : pc' = pc + 1) (kk : Run C Z R w To f Q b Ts Li h k n pc' L (.int z :: S)) : Run C Z R w To f Q b Ts Li h k n pc L (.int y :: .int x :: S) := by
  subst hp
  subst hz
  exact kk.one fun T vm0 locs t X kt => XS.iushr X.here H.1 rfl (H.dec hd) rfl kt
theorem r_ladd (H : Stn C Z own by_ mL rt nm q) (pc' : Nat) (z : Int64) {x y : Int64} (hd : decode by_ pc = .ok (.ladd, 1)) (hz : (x + y) = z) (hp : pc' = pc + 1) (kk : Run C Z R w To f Q b Ts Li h k n pc' L (.long z :: S)) : Run C Z R w To f Q b Ts Li h k n pc L (.long y :: .long x :: S) := by
  subst hp
  subst hz
  exact kk.one fun T vm0 locs t X kt => XS.ladd X.here H.1 rfl (H.dec hd) rfl kt
theorem r_lsub (H : Stn C Z own by_ mL rt nm q) (pc' : Nat) (z : Int64) {x y : Int64} (hd : decode by_ pc = .ok (.lsub, 1)) (hz : (x - y) = z) (hp : pc' = pc + 1) (kk : Run C Z R w To f Q b Ts Li h k n pc' L (.long z :: S)) : Run C Z R w To f Q b Ts Li h k n pc L (.long y :: .long x :: S) := by
  subst hp
  subst hz
  exact kk.one fun T vm0 locs t X kt => XS.lsub X.here H.1 rfl (H.dec hd) rfl kt
theorem r_lmul (H : Stn C Z own by_ mL rt nm q) (pc' : Nat) (z : Int64) {x y : Int64} (hd : decode by_ pc = .ok (.lmul, 1)) (hz : (x * y) = z) (hp : pc' = pc + 1) (kk : Run C Z R w To f Q b Ts Li h k n pc' L (.long z :: S)) : Run C Z R w To f Q b Ts Li h k n pc L (.long y :: .long x :: S) := by
  subst hp
  subst hz
  exact kk.one fun T vm0 locs t X kt => XS.lmul X.here H.1 rfl (H.dec hd) rfl kt
theorem r_land (H : Stn C Z own by_ mL rt nm q) (pc' : Nat) (z : Int64) {x y : Int64} (hd : decode by_ pc = .ok (.land, 1)) (hz : (x &&& y) = z) (hp : pc' = pc + 1) (kk : Run C Z R w To f Q b Ts Li h k n pc' L (.long z :: S)) : Run C Z R w To f Q b Ts Li h k n pc L (.long y :: .long x :: S) := by
  subst hp
  subst hz
  exact kk.one fun T vm0 locs t X kt => XS.land X.here H.1 rfl (H.dec hd) rfl kt
theorem r_lushr (H : Stn C Z own by_ mL rt nm q) (pc' : Nat) (z : Int64) {x : Int64} {y : Int32} (hd : decode by_ pc = .ok (.lushr, 1)) (hz : (ush64 x y) = z) (hp : pc' = pc + 1) (kk : Run C Z R w To f Q b Ts Li h k n pc' L (.long z :: S)) : Run C Z R w To f Q b Ts Li h k n pc L (.int y :: .long x :: S) := by
  subst hp
  subst hz
  exact kk.one fun T vm0 locs t X kt => XS.lushr X.here H.1 rfl (H.dec hd) rfl kt
theorem r_lshr (H : Stn C Z own by_ mL rt nm q) (pc' : Nat) (z : Int64) {x : Int64} {y : Int32} (hd : decode by_ pc = .ok (.lshr, 1)) (hz : (x >>> (y &&& 63).toInt64) = z) (hp : pc' = pc + 1) (kk : Run C Z R w To f Q b Ts Li h k n pc' L (.long z :: S)) : Run C Z R w To f Q b Ts Li h k n pc L (.int y :: .long x :: S) := by
  subst hp
  subst hz
  exact kk.one fun T vm0 locs t X kt => XS.lshr X.here H.1 rfl (H.dec hd) rfl kt
theorem r_lshl (H : Stn C Z own by_ mL rt nm q) (pc' : Nat) (z : Int64) {x : Int64} {y : Int32} (hd : decode by_ pc = .ok (.lshl, 1)) (hz : (x <<< (y &&& 63).toInt64) = z) (hp : pc' = pc + 1) (kk : Run C Z R w To f Q b Ts Li h k n pc' L (.long z :: S)) : Run C Z R w To f Q b Ts Li h k n pc L (.int y :: .long x :: S) := by
  subst hp
  subst hz
  exact kk.one fun T vm0 locs t X kt => XS.lshl X.here H.1 rfl (H.dec hd) rfl kt
theorem r_idiv (H : Stn C Z own by_ mL rt nm q) (pc' : Nat) (z : Int32) {x y : Int32} (hd : decode by_ pc = .ok (.idiv, 1)) (hy : y ≠ 0) (hz : (x / y) = z) (hp : pc' = pc + 1) (kk : Run C Z R w To f Q b Ts Li h k n pc' L (.int z :: S)) : Run C Z R w To f Q b Ts Li h k n pc L (.int y :: .int x :: S) := by
  subst hp
  subst hz
  exact kk.one fun T vm0 locs t X kt => XS.idiv X.here H.1 rfl (H.dec hd) rfl hy kt
theorem r_irem (H : Stn C Z own by_ mL rt nm q) (pc' : Nat) (z : Int32) {x y : Int32} (hd : decode by_ pc = .ok (.irem, 1)) (hy : y ≠ 0) (hz : x % y = z) (hp : pc' = pc + 1) (kk : Run C Z R w To f Q b Ts Li h k n pc' L (.int z :: S)) : Run C Z R w To f Q b Ts Li h k n pc L (.int y :: .int x :: S) := by
  subst hp hz
  exact kk.one fun T vm0 locs t X kt => iremM X H.1 rfl (H.dec hd) rfl hy kt
theorem r_ldiv (H : Stn C Z own by_ mL rt nm q) (pc' : Nat) (z : Int64) {x y : Int64} (hd : decode by_ pc = .ok (.ldiv, 1)) (hy : y ≠ 0) (hz : (x / y) = z) (hp : pc' = pc + 1) (kk : Run C Z R w To f Q b Ts Li h k n pc' L (.long z :: S)) : Run C Z R w To f Q b Ts Li h k n pc L (.long y :: .long x :: S) := by
  subst hp
  subst hz
  exact kk.one fun T vm0 locs t X kt => XS.ldiv X.here H.1 rfl (H.dec hd) rfl hy kt
theorem r_lrem (H : Stn C Z own by_ mL rt nm q) (pc' : Nat) (z : Int64) {x y : Int64} (hd : decode by_ pc = .ok (.lrem, 1)) (hy : y ≠ 0) (hz : (x - (x / y) * y) = z) (hp : pc' = pc + 1) (kk : Run C Z R w To f Q b Ts Li h k n pc' L (.long z :: S)) : Run C Z R w To f Q b Ts Li h k n pc L (.long y :: .long x :: S) := by
  subst hp
  subst hz
  exact kk.one fun T vm0 locs t X kt => XS.lrem X.here H.1 rfl (H.dec hd) rfl hy kt
theorem r_ineg (H : Stn C Z own by_ mL rt nm q) (pc' : Nat) (z : Int32) {x : Int32} (hd : decode by_ pc = .ok (.ineg, 1)) (hz : (-x) = z) (hp : pc' = pc + 1) (kk : Run C Z R w To f Q b Ts Li h k n pc' L (.int z :: S)) : Run C Z R w To f Q b Ts Li h k n pc L (.int x :: S) := by
  subst hp
  subst hz
  exact kk.one fun T vm0 locs t X kt => XS.ineg X.here H.1 rfl (H.dec hd) rfl kt
theorem r_lneg (H : Stn C Z own by_ mL rt nm q) (pc' : Nat) (z : Int64) {x : Int64} (hd : decode by_ pc = .ok (.lneg, 1)) (hz : (-x) = z) (hp : pc' = pc + 1) (kk : Run C Z R w To f Q b Ts Li h k n pc' L (.long z :: S)) : Run C Z R w To f Q b Ts Li h k n pc L (.long x :: S) := by
  subst hp
  subst hz
  exact kk.one fun T vm0 locs t X kt => XS.lneg X.here H.1 rfl (H.dec hd) rfl kt
theorem r_i2l (H : Stn C Z own by_ mL rt nm q) (pc' : Nat) (z : Int64) {x : Int32} (hd : decode by_ pc = .ok (.i2l, 1)) (hz : (x.toInt64) = z) (hp : pc' = pc + 1) (kk : Run C Z R w To f Q b Ts Li h k n pc' L (.long z :: S)) : Run C Z R w To f Q b Ts Li h k n pc L (.int x :: S) := by
  subst hp
  subst hz
  exact kk.one fun T vm0 locs t X kt => XS.i2l X.here H.1 rfl (H.dec hd) rfl kt
theorem r_l2i (H : Stn C Z own by_ mL rt nm q) (pc' : Nat) (z : Int32) {x : Int64} (hd : decode by_ pc = .ok (.l2i, 1)) (hz : (x.toInt32) = z) (hp : pc' = pc + 1) (kk : Run C Z R w To f Q b Ts Li h k n pc' L (.int z :: S)) : Run C Z R w To f Q b Ts Li h k n pc L (.long x :: S) := by
  subst hp
  subst hz
  exact kk.one fun T vm0 locs t X kt => XS.l2i X.here H.1 rfl (H.dec hd) rfl kt
theorem r_i2b (H : Stn C Z own by_ mL rt nm q) (pc' : Nat) (z : Int32) {x : Int32} (hd : decode by_ pc = .ok (.i2b, 1)) (hz : (x.toInt8.toInt32) = z) (hp : pc' = pc + 1) (kk : Run C Z R w To f Q b Ts Li h k n pc' L (.int z :: S)) : Run C Z R w To f Q b Ts Li h k n pc L (.int x :: S) := by
  subst hp
  subst hz
  exact kk.one fun T vm0 locs t X kt => XS.i2b X.here H.1 rfl (H.dec hd) rfl kt
theorem r_i2c (H : Stn C Z own by_ mL rt nm q) (pc' : Nat) (z : Int32) {x : Int32} (hd : decode by_ pc = .ok (.i2c, 1)) (hz : (x.toUInt32.toUInt16.toUInt32.toInt32) = z) (hp : pc' = pc + 1) (kk : Run C Z R w To f Q b Ts Li h k n pc' L (.int z :: S)) : Run C Z R w To f Q b Ts Li h k n pc L (.int x :: S) := by
  subst hp
  subst hz
  exact kk.one fun T vm0 locs t X kt => XS.i2c X.here H.1 rfl (H.dec hd) rfl kt
theorem r_i2s (H : Stn C Z own by_ mL rt nm q) (pc' : Nat) (z : Int32) {x : Int32} (hd : decode by_ pc = .ok (.i2s, 1)) (hz : (x.toInt16.toInt32) = z) (hp : pc' = pc + 1) (kk : Run C Z R w To f Q b Ts Li h k n pc' L (.int z :: S)) : Run C Z R w To f Q b Ts Li h k n pc L (.int x :: S) := by
  subst hp
  subst hz
  exact kk.one fun T vm0 locs t X kt => XS.i2s X.here H.1 rfl (H.dec hd) rfl kt
theorem r_lcmp (H : Stn C Z own by_ mL rt nm q) (pc' : Nat) (z : Int32) {x y : Int64} (hd : decode by_ pc = .ok (.lcmp, 1)) (hz : lcmpW x y = z) (hp : pc' = pc + 1) (kk : Run C Z R w To f Q b Ts Li h k n pc' L (.int z :: S)) : Run C Z R w To f Q b Ts Li h k n pc L (.long y :: .long x :: S) := by
  subst hp
  subst hz
  exact kk.one fun T vm0 locs t X kt => XS.lcmp X.here H.1 rfl (H.dec hd) rfl kt
theorem r_dup (H : Stn C Z own by_ mL rt nm q) (pc' : Nat) {x : Value} (hd : decode by_ pc = .ok (.dup, 1)) (hc : x.category = 1) (hp : pc' = pc + 1) (kk : Run C Z R w To f Q b Ts Li h k n pc' L (x :: x :: S)) : Run C Z R w To f Q b Ts Li h k n pc L (x :: S) := by
  subst hp
  exact kk.one fun T vm0 locs t X kt => XS.dup X.here H.1 rfl (H.dec hd) rfl hc kt
theorem r_pop (H : Stn C Z own by_ mL rt nm q) (pc' : Nat) {x : Value} (hd : decode by_ pc = .ok (.pop, 1)) (hc : x.category = 1) (hp : pc' = pc + 1) (kk : Run C Z R w To f Q b Ts Li h k n pc' L (S)) : Run C Z R w To f Q b Ts Li h k n pc L (x :: S) := by
  subst hp
  exact kk.one fun T vm0 locs t X kt => XS.pop X.here H.1 rfl (H.dec hd) rfl hc kt
theorem r_dupX1 (H : Stn C Z own by_ mL rt nm q) (pc' : Nat) {x y : Value} (hd : decode by_ pc = .ok (.dup_x1, 1)) (hc : x.category = 1) (hc' : y.category = 1) (hp : pc' = pc + 1) (kk : Run C Z R w To f Q b Ts Li h k n pc' L (x :: y :: x :: S)) : Run C Z R w To f Q b Ts Li h k n pc L (x :: y :: S) := by
  subst hp
  exact kk.one fun T vm0 locs t X kt => XS.dupX1 X.here H.1 rfl (H.dec hd) rfl hc hc' kt
theorem r_goto (H : Stn C Z own by_ mL rt nm q) (pc' : Nat) {o : Int} (hd : decode by_ pc = .ok (.goto o, 3)) (ho : 0 ≤ (pc : Int) + o) (hp : ((pc : Int) + o).toNat = pc') (kk : Run C Z R w To f Q b Ts Li h k n pc' L S) : Run C Z R w To f Q b Ts Li h k n pc L S := by
  exact kk.one fun T vm0 locs t X kt => XS.goto X.here H.1 rfl rfl (H.dec hd) ho hp kt
theorem r_icmpltT (H : Stn C Z own by_ mL rt nm q) (pc' : Nat) {x y : Int32} {o : Int} (hd : decode by_ pc = .ok (.if_icmp .lt o, 3)) (ho : 0 ≤ (pc : Int) + o) (hp : ((pc : Int) + o).toNat = pc') (c : x < y) (kk : Run C Z R w To f Q b Ts Li h k n pc' L S) : Run C Z R w To f Q b Ts Li h k n pc L (.int y :: .int x :: S) := by
  exact kk.one fun T vm0 locs t X kt => XS.icmpYes X.here H.1 rfl rfl (H.dec hd) rfl (tlt c).1 ho hp kt
theorem r_icmpltF (H : Stn C Z own by_ mL rt nm q) (pc' : Nat) {x y : Int32} {o : Int} (hd : decode by_ pc = .ok (.if_icmp .lt o, 3)) (hp : pc' = pc + 3) (c : ¬ x < y) (kk : Run C Z R w To f Q b Ts Li h k n pc' L S) : Run C Z R w To f Q b Ts Li h k n pc L (.int y :: .int x :: S) := by
  subst hp
  exact kk.one fun T vm0 locs t X kt => XS.icmpNo X.here H.1 rfl (H.dec hd) rfl (flt c).1 kt
theorem r_icmplt (H : Stn C Z own by_ mL rt nm q) (pt pf : Nat) {x y : Int32} {o : Int} (hd : decode by_ pc = .ok (.if_icmp .lt o, 3)) (ho : 0 ≤ (pc : Int) + o) (hp : ((pc : Int) + o).toNat = pt) (hf : pf = pc + 3) (kt : x < y → Run C Z R w To f Q b Ts Li h k n pt L S) (kf : ¬ x < y → Run C Z R w To f Q b Ts Li h k n pf L S) : Run C Z R w To f Q b Ts Li h k n pc L (.int y :: .int x :: S) := by
  by_cases c : x < y
  · exact r_icmpltT H pt hd ho hp c (kt c)
  · exact r_icmpltF H pf hd hf c (kf c)
theorem r_ifltT (H : Stn C Z own by_ mL rt nm q) (pc' : Nat) {x : Int32} {o : Int} (hd : decode by_ pc = .ok (.ifCond .lt o, 3)) (ho : 0 ≤ (pc : Int) + o) (hp : ((pc : Int) + o).toNat = pc') (c : x < 0) (kk : Run C Z R w To f Q b Ts Li h k n pc' L S) : Run C Z R w To f Q b Ts Li h k n pc L (.int x :: S) := by
  exact kk.one fun T vm0 locs t X kt => XS.ifYes X.here H.1 rfl rfl (H.dec hd) rfl ((if0 _ _).trans (tlt c).1) ho hp kt
theorem r_ifltF (H : Stn C Z own by_ mL rt nm q) (pc' : Nat) {x : Int32} {o : Int} (hd : decode by_ pc = .ok (.ifCond .lt o, 3)) (hp : pc' = pc + 3) (c : ¬ x < 0) (kk : Run C Z R w To f Q b Ts Li h k n pc' L S) : Run C Z R w To f Q b Ts Li h k n pc L (.int x :: S) := by
  subst hp
  exact kk.one fun T vm0 locs t X kt => XS.ifNo X.here H.1 rfl (H.dec hd) rfl ((if0 _ _).trans (flt c).1) kt
theorem r_iflt (H : Stn C Z own by_ mL rt nm q) (pt pf : Nat) {x : Int32} {o : Int} (hd : decode by_ pc = .ok (.ifCond .lt o, 3)) (ho : 0 ≤ (pc : Int) + o) (hp : ((pc : Int) + o).toNat = pt) (hf : pf = pc + 3) (kt : x < 0 → Run C Z R w To f Q b Ts Li h k n pt L S) (kf : ¬ x < 0 → Run C Z R w To f Q b Ts Li h k n pf L S) : Run C Z R w To f Q b Ts Li h k n pc L (.int x :: S) := by
  by_cases c : x < 0
  · exact r_ifltT H pt hd ho hp c (kt c)
  · exact r_ifltF H pf hd hf c (kf c)
theorem r_icmpgeT (H : Stn C Z own by_ mL rt nm q) (pc' : Nat) {x y : Int32} {o : Int} (hd : decode by_ pc = .ok (.if_icmp .ge o, 3)) (ho : 0 ≤ (pc : Int) + o) (hp : ((pc : Int) + o).toNat = pc') (c : ¬ x < y) (kk : Run C Z R w To f Q b Ts Li h k n pc' L S) : Run C Z R w To f Q b Ts Li h k n pc L (.int y :: .int x :: S) := by
  exact kk.one fun T vm0 locs t X kt => XS.icmpYes X.here H.1 rfl rfl (H.dec hd) rfl (flt c).2.1 ho hp kt
theorem r_icmpgeF (H : Stn C Z own by_ mL rt nm q) (pc' : Nat) {x y : Int32} {o : Int} (hd : decode by_ pc = .ok (.if_icmp .ge o, 3)) (hp : pc' = pc + 3) (c : x < y) (kk : Run C Z R w To f Q b Ts Li h k n pc' L S) : Run C Z R w To f Q b Ts Li h k n pc L (.int y :: .int x :: S) := by
  subst hp
  exact kk.one fun T vm0 locs t X kt => XS.icmpNo X.here H.1 rfl (H.dec hd) rfl (tlt c).2.1 kt
theorem r_icmpge (H : Stn C Z own by_ mL rt nm q) (pt pf : Nat) {x y : Int32} {o : Int} (hd : decode by_ pc = .ok (.if_icmp .ge o, 3)) (ho : 0 ≤ (pc : Int) + o) (hp : ((pc : Int) + o).toNat = pt) (hf : pf = pc + 3) (kt : ¬ x < y → Run C Z R w To f Q b Ts Li h k n pt L S) (kf : x < y → Run C Z R w To f Q b Ts Li h k n pf L S) : Run C Z R w To f Q b Ts Li h k n pc L (.int y :: .int x :: S) := by
  by_cases c : ¬ x < y
  · exact r_icmpgeT H pt hd ho hp c (kt c)
  · exact r_icmpgeF H pf hd hf (Decidable.not_not.mp c) (kf (Decidable.not_not.mp c))
theorem r_ifgeT (H : Stn C Z own by_ mL rt nm q) (pc' : Nat) {x : Int32} {o : Int} (hd : decode by_ pc = .ok (.ifCond .ge o, 3)) (ho : 0 ≤ (pc : Int) + o) (hp : ((pc : Int) + o).toNat = pc') (c : ¬ x < 0) (kk : Run C Z R w To f Q b Ts Li h k n pc' L S) : Run C Z R w To f Q b Ts Li h k n pc L (.int x :: S) := by
  exact kk.one fun T vm0 locs t X kt => XS.ifYes X.here H.1 rfl rfl (H.dec hd) rfl ((if0 _ _).trans (flt c).2.1) ho hp kt
theorem r_ifgeF (H : Stn C Z own by_ mL rt nm q) (pc' : Nat) {x : Int32} {o : Int} (hd : decode by_ pc = .ok (.ifCond .ge o, 3)) (hp : pc' = pc + 3) (c : x < 0) (kk : Run C Z R w To f Q b Ts Li h k n pc' L S) : Run C Z R w To f Q b Ts Li h k n pc L (.int x :: S) := by
  subst hp
  exact kk.one fun T vm0 locs t X kt => XS.ifNo X.here H.1 rfl (H.dec hd) rfl ((if0 _ _).trans (tlt c).2.1) kt
theorem r_ifge (H : Stn C Z own by_ mL rt nm q) (pt pf : Nat) {x : Int32} {o : Int} (hd : decode by_ pc = .ok (.ifCond .ge o, 3)) (ho : 0 ≤ (pc : Int) + o) (hp : ((pc : Int) + o).toNat = pt) (hf : pf = pc + 3) (kt : ¬ x < 0 → Run C Z R w To f Q b Ts Li h k n pt L S) (kf : x < 0 → Run C Z R w To f Q b Ts Li h k n pf L S) : Run C Z R w To f Q b Ts Li h k n pc L (.int x :: S) := by
  by_cases c : ¬ x < 0
  · exact r_ifgeT H pt hd ho hp c (kt c)
  · exact r_ifgeF H pf hd hf (Decidable.not_not.mp c) (kf (Decidable.not_not.mp c))
theorem r_icmpgtT (H : Stn C Z own by_ mL rt nm q) (pc' : Nat) {x y : Int32} {o : Int} (hd : decode by_ pc = .ok (.if_icmp .gt o, 3)) (ho : 0 ≤ (pc : Int) + o) (hp : ((pc : Int) + o).toNat = pc') (c : y < x) (kk : Run C Z R w To f Q b Ts Li h k n pc' L S) : Run C Z R w To f Q b Ts Li h k n pc L (.int y :: .int x :: S) := by
  exact kk.one fun T vm0 locs t X kt => XS.icmpYes X.here H.1 rfl rfl (H.dec hd) rfl (tlt c).2.2.1 ho hp kt
theorem r_icmpgtF (H : Stn C Z own by_ mL rt nm q) (pc' : Nat) {x y : Int32} {o : Int} (hd : decode by_ pc = .ok (.if_icmp .gt o, 3)) (hp : pc' = pc + 3) (c : ¬ y < x) (kk : Run C Z R w To f Q b Ts Li h k n pc' L S) : Run C Z R w To f Q b Ts Li h k n pc L (.int y :: .int x :: S) := by
  subst hp
  exact kk.one fun T vm0 locs t X kt => XS.icmpNo X.here H.1 rfl (H.dec hd) rfl (flt c).2.2.1 kt
theorem r_icmpgt (H : Stn C Z own by_ mL rt nm q) (pt pf : Nat) {x y : Int32} {o : Int} (hd : decode by_ pc = .ok (.if_icmp .gt o, 3)) (ho : 0 ≤ (pc : Int) + o) (hp : ((pc : Int) + o).toNat = pt) (hf : pf = pc + 3) (kt : y < x → Run C Z R w To f Q b Ts Li h k n pt L S) (kf : ¬ y < x → Run C Z R w To f Q b Ts Li h k n pf L S) : Run C Z R w To f Q b Ts Li h k n pc L (.int y :: .int x :: S) := by
  by_cases c : y < x
  · exact r_icmpgtT H pt hd ho hp c (kt c)
  · exact r_icmpgtF H pf hd hf c (kf c)
theorem r_ifgtT (H : Stn C Z own by_ mL rt nm q) (pc' : Nat) {x : Int32} {o : Int} (hd : decode by_ pc = .ok (.ifCond .gt o, 3)) (ho : 0 ≤ (pc : Int) + o) (hp : ((pc : Int) + o).toNat = pc') (c : 0 < x) (kk : Run C Z R w To f Q b Ts Li h k n pc' L S) : Run C Z R w To f Q b Ts Li h k n pc L (.int x :: S) := by
  exact kk.one fun T vm0 locs t X kt => XS.ifYes X.here H.1 rfl rfl (H.dec hd) rfl ((if0 _ _).trans (tlt c).2.2.1) ho hp kt
theorem r_ifgtF (H : Stn C Z own by_ mL rt nm q) (pc' : Nat) {x : Int32} {o : Int} (hd : decode by_ pc = .ok (.ifCond .gt o, 3)) (hp : pc' = pc + 3) (c : ¬ 0 < x) (kk : Run C Z R w To f Q b Ts Li h k n pc' L S) : Run C Z R w To f Q b Ts Li h k n pc L (.int x :: S) := by
  subst hp
  exact kk.one fun T vm0 locs t X kt => XS.ifNo X.here H.1 rfl (H.dec hd) rfl ((if0 _ _).trans (flt c).2.2.1) kt
theorem r_ifgt (H : Stn C Z own by_ mL rt nm q) (pt pf : Nat) {x : Int32} {o : Int} (hd : decode by_ pc = .ok (.ifCond .gt o, 3)) (ho : 0 ≤ (pc : Int) + o) (hp : ((pc : Int) + o).toNat = pt) (hf : pf = pc + 3) (kt : 0 < x → Run C Z R w To f Q b Ts Li h k n pt L S) (kf : ¬ 0 < x → Run C Z R w To f Q b Ts Li h k n pf L S) : Run C Z R w To f Q b Ts Li h k n pc L (.int x :: S) := by
  by_cases c : 0 < x
  · exact r_ifgtT H pt hd ho hp c (kt c)
  · exact r_ifgtF H pf hd hf c (kf c)
theorem r_icmpleT (H : Stn C Z own by_ mL rt nm q) (pc' : Nat) {x y : Int32} {o : Int} (hd : decode by_ pc = .ok (.if_icmp .le o, 3)) (ho : 0 ≤ (pc : Int) + o) (hp : ((pc : Int) + o).toNat = pc') (c : ¬ y < x) (kk : Run C Z R w To f Q b Ts Li h k n pc' L S) : Run C Z R w To f Q b Ts Li h k n pc L (.int y :: .int x :: S) := by
  exact kk.one fun T vm0 locs t X kt => XS.icmpYes X.here H.1 rfl rfl (H.dec hd) rfl (flt c).2.2.2 ho hp kt
theorem r_icmpleF (H : Stn C Z own by_ mL rt nm q) (pc' : Nat) {x y : Int32} {o : Int} (hd : decode by_ pc = .ok (.if_icmp .le o, 3)) (hp : pc' = pc + 3) (c : y < x) (kk : Run C Z R w To f Q b Ts Li h k n pc' L S) : Run C Z R w To f Q b Ts Li h k n pc L (.int y :: .int x :: S) := by
  subst hp
  exact kk.one fun T vm0 locs t X kt => XS.icmpNo X.here H.1 rfl (H.dec hd) rfl (tlt c).2.2.2 kt
theorem r_icmple (H : Stn C Z own by_ mL rt nm q) (pt pf : Nat) {x y : Int32} {o : Int} (hd : decode by_ pc = .ok (.if_icmp .le o, 3)) (ho : 0 ≤ (pc : Int) + o) (hp : ((pc : Int) + o).toNat = pt) (hf : pf = pc + 3) (kt : ¬ y < x → Run C Z R w To f Q b Ts Li h k n pt L S) (kf : y < x → Run C Z R w To f Q b Ts Li h k n pf L S) : Run C Z R w To f Q b Ts Li h k n pc L (.int y :: .int x :: S) := by
  by_cases c : ¬ y < x
  · exact r_icmpleT H pt hd ho hp c (kt c)
  · exact r_icmpleF H pf hd hf (Decidable.not_not.mp c) (kf (Decidable.not_not.mp c))
theorem r_ifleT (H : Stn C Z own by_ mL rt nm q) (pc' : Nat) {x : Int32} {o : Int} (hd : decode by_ pc = .ok (.ifCond .le o, 3)) (ho : 0 ≤ (pc : Int) + o) (hp : ((pc : Int) + o).toNat = pc') (c : ¬ 0 < x) (kk : Run C Z R w To f Q b Ts Li h k n pc' L S) : Run C Z R w To f Q b Ts Li h k n pc L (.int x :: S) := by
  exact kk.one fun T vm0 locs t X kt => XS.ifYes X.here H.1 rfl rfl (H.dec hd) rfl ((if0 _ _).trans (flt c).2.2.2) ho hp kt
theorem r_ifleF (H : Stn C Z own by_ mL rt nm q) (pc' : Nat) {x : Int32} {o : Int} (hd : decode by_ pc = .ok (.ifCond .le o, 3)) (hp : pc' = pc + 3) (c : 0 < x) (kk : Run C Z R w To f Q b Ts Li h k n pc' L S) : Run C Z R w To f Q b Ts Li h k n pc L (.int x :: S) := by
  subst hp
  exact kk.one fun T vm0 locs t X kt => XS.ifNo X.here H.1 rfl (H.dec hd) rfl ((if0 _ _).trans (tlt c).2.2.2) kt
theorem r_ifle (H : Stn C Z own by_ mL rt nm q) (pt pf : Nat) {x : Int32} {o : Int} (hd : decode by_ pc = .ok (.ifCond .le o, 3)) (ho : 0 ≤ (pc : Int) + o) (hp : ((pc : Int) + o).toNat = pt) (hf : pf = pc + 3) (kt : ¬ 0 < x → Run C Z R w To f Q b Ts Li h k n pt L S) (kf : 0 < x → Run C Z R w To f Q b Ts Li h k n pf L S) : Run C Z R w To f Q b Ts Li h k n pc L (.int x :: S) := by
  by_cases c : ¬ 0 < x
  · exact r_ifleT H pt hd ho hp c (kt c)
  · exact r_ifleF H pf hd hf (Decidable.not_not.mp c) (kf (Decidable.not_not.mp c))
theorem r_icmpeqT (H : Stn C Z own by_ mL rt nm q) (pc' : Nat) {x y : Int32} {o : Int} (hd : decode by_ pc = .ok (.if_icmp .eq o, 3)) (ho : 0 ≤ (pc : Int) + o) (hp : ((pc : Int) + o).toNat = pc') (c : x = y) (kk : Run C Z R w To f Q b Ts Li h k n pc' L S) : Run C Z R w To f Q b Ts Li h k n pc L (.int y :: .int x :: S) := by
  exact kk.one fun T vm0 locs t X kt => XS.icmpYes X.here H.1 rfl rfl (H.dec hd) rfl (teq c).1 ho hp kt
theorem r_icmpeqF (H : Stn C Z own by_ mL rt nm q) (pc' : Nat) {x y : Int32} {o : Int} (hd : decode by_ pc = .ok (.if_icmp .eq o, 3)) (hp : pc' = pc + 3) (c : ¬ x = y) (kk : Run C Z R w To f Q b Ts Li h k n pc' L S) : Run C Z R w To f Q b Ts Li h k n pc L (.int y :: .int x :: S) := by
  subst hp
  exact kk.one fun T vm0 locs t X kt => XS.icmpNo X.here H.1 rfl (H.dec hd) rfl (feq c).1 kt
theorem r_icmpeq (H : Stn C Z own by_ mL rt nm q) (pt pf : Nat) {x y : Int32} {o : Int} (hd : decode by_ pc = .ok (.if_icmp .eq o, 3)) (ho : 0 ≤ (pc : Int) + o) (hp : ((pc : Int) + o).toNat = pt) (hf : pf = pc + 3) (kt : x = y → Run C Z R w To f Q b Ts Li h k n pt L S) (kf : ¬ x = y → Run C Z R w To f Q b Ts Li h k n pf L S) : Run C Z R w To f Q b Ts Li h k n pc L (.int y :: .int x :: S) := by
  by_cases c : x = y
  · exact r_icmpeqT H pt hd ho hp c (kt c)
  · exact r_icmpeqF H pf hd hf c (kf c)
theorem r_ifeqT (H : Stn C Z own by_ mL rt nm q) (pc' : Nat) {x : Int32} {o : Int} (hd : decode by_ pc = .ok (.ifCond .eq o, 3)) (ho : 0 ≤ (pc : Int) + o) (hp : ((pc : Int) + o).toNat = pc') (c : x = 0) (kk : Run C Z R w To f Q b Ts Li h k n pc' L S) : Run C Z R w To f Q b Ts Li h k n pc L (.int x :: S) := by
  exact kk.one fun T vm0 locs t X kt => XS.ifYes X.here H.1 rfl rfl (H.dec hd) rfl ((if0 _ _).trans (teq c).1) ho hp kt
theorem r_ifeqF (H : Stn C Z own by_ mL rt nm q) (pc' : Nat) {x : Int32} {o : Int} (hd : decode by_ pc = .ok (.ifCond .eq o, 3)) (hp : pc' = pc + 3) (c : ¬ x = 0) (kk : Run C Z R w To f Q b Ts Li h k n pc' L S) : Run C Z R w To f Q b Ts Li h k n pc L (.int x :: S) := by
  subst hp
  exact kk.one fun T vm0 locs t X kt => XS.ifNo X.here H.1 rfl (H.dec hd) rfl ((if0 _ _).trans (feq c).1) kt
theorem r_ifeq (H : Stn C Z own by_ mL rt nm q) (pt pf : Nat) {x : Int32} {o : Int} (hd : decode by_ pc = .ok (.ifCond .eq o, 3)) (ho : 0 ≤ (pc : Int) + o) (hp : ((pc : Int) + o).toNat = pt) (hf : pf = pc + 3) (kt : x = 0 → Run C Z R w To f Q b Ts Li h k n pt L S) (kf : ¬ x = 0 → Run C Z R w To f Q b Ts Li h k n pf L S) : Run C Z R w To f Q b Ts Li h k n pc L (.int x :: S) := by
  by_cases c : x = 0
  · exact r_ifeqT H pt hd ho hp c (kt c)
  · exact r_ifeqF H pf hd hf c (kf c)
theorem r_icmpneT (H : Stn C Z own by_ mL rt nm q) (pc' : Nat) {x y : Int32} {o : Int} (hd : decode by_ pc = .ok (.if_icmp .ne o, 3)) (ho : 0 ≤ (pc : Int) + o) (hp : ((pc : Int) + o).toNat = pc') (c : ¬ x = y) (kk : Run C Z R w To f Q b Ts Li h k n pc' L S) : Run C Z R w To f Q b Ts Li h k n pc L (.int y :: .int x :: S) := by
  exact kk.one fun T vm0 locs t X kt => XS.icmpYes X.here H.1 rfl rfl (H.dec hd) rfl (feq c).2 ho hp kt
theorem r_icmpneF (H : Stn C Z own by_ mL rt nm q) (pc' : Nat) {x y : Int32} {o : Int} (hd : decode by_ pc = .ok (.if_icmp .ne o, 3)) (hp : pc' = pc + 3) (c : x = y) (kk : Run C Z R w To f Q b Ts Li h k n pc' L S) : Run C Z R w To f Q b Ts Li h k n pc L (.int y :: .int x :: S) := by
  subst hp
  exact kk.one fun T vm0 locs t X kt => XS.icmpNo X.here H.1 rfl (H.dec hd) rfl (teq c).2 kt
theorem r_icmpne (H : Stn C Z own by_ mL rt nm q) (pt pf : Nat) {x y : Int32} {o : Int} (hd : decode by_ pc = .ok (.if_icmp .ne o, 3)) (ho : 0 ≤ (pc : Int) + o) (hp : ((pc : Int) + o).toNat = pt) (hf : pf = pc + 3) (kt : ¬ x = y → Run C Z R w To f Q b Ts Li h k n pt L S) (kf : x = y → Run C Z R w To f Q b Ts Li h k n pf L S) : Run C Z R w To f Q b Ts Li h k n pc L (.int y :: .int x :: S) := by
  by_cases c : ¬ x = y
  · exact r_icmpneT H pt hd ho hp c (kt c)
  · exact r_icmpneF H pf hd hf (Decidable.not_not.mp c) (kf (Decidable.not_not.mp c))
theorem r_ifneT (H : Stn C Z own by_ mL rt nm q) (pc' : Nat) {x : Int32} {o : Int} (hd : decode by_ pc = .ok (.ifCond .ne o, 3)) (ho : 0 ≤ (pc : Int) + o) (hp : ((pc : Int) + o).toNat = pc') (c : ¬ x = 0) (kk : Run C Z R w To f Q b Ts Li h k n pc' L S) : Run C Z R w To f Q b Ts Li h k n pc L (.int x :: S) := by
  exact kk.one fun T vm0 locs t X kt => XS.ifYes X.here H.1 rfl rfl (H.dec hd) rfl ((if0 _ _).trans (feq c).2) ho hp kt
theorem r_ifneF (H : Stn C Z own by_ mL rt nm q) (pc' : Nat) {x : Int32} {o : Int} (hd : decode by_ pc = .ok (.ifCond .ne o, 3)) (hp : pc' = pc + 3) (c : x = 0) (kk : Run C Z R w To f Q b Ts Li h k n pc' L S) : Run C Z R w To f Q b Ts Li h k n pc L (.int x :: S) := by
  subst hp
  exact kk.one fun T vm0 locs t X kt => XS.ifNo X.here H.1 rfl (H.dec hd) rfl ((if0 _ _).trans (teq c).2) kt
theorem r_ifne (H : Stn C Z own by_ mL rt nm q) (pt pf : Nat) {x : Int32} {o : Int} (hd : decode by_ pc = .ok (.ifCond .ne o, 3)) (ho : 0 ≤ (pc : Int) + o) (hp : ((pc : Int) + o).toNat = pt) (hf : pf = pc + 3) (kt : ¬ x = 0 → Run C Z R w To f Q b Ts Li h k n pt L S) (kf : x = 0 → Run C Z R w To f Q b Ts Li h k n pf L S) : Run C Z R w To f Q b Ts Li h k n pc L (.int x :: S) := by
  by_cases c : ¬ x = 0
  · exact r_ifneT H pt hd ho hp c (kt c)
  · exact r_ifneF H pf hd hf (Decidable.not_not.mp c) (kf (Decidable.not_not.mp c))
theorem r_ifnullT (H : Stn C Z own by_ mL rt nm q) (pc' : Nat) {o : Int} (hd : decode by_ pc = .ok (.ifnull o, 3)) (ho : 0 ≤ (pc : Int) + o) (hp : ((pc : Int) + o).toNat = pc') (kk : Run C Z R w To f Q b Ts Li h k n pc' L S) : Run C Z R w To f Q b Ts Li h k n pc L (.null :: S) := by
  exact kk.one fun T vm0 locs t X kt => XS.ifnullYes X.here H.1 rfl rfl (H.dec hd) rfl ho hp kt
theorem r_ifnullF (H : Stn C Z own by_ mL rt nm q) (pc' : Nat) {o : Int} {a : Addr} (hd : decode by_ pc = .ok (.ifnull o, 3)) (hp : pc' = pc + 3) (kk : Run C Z R w To f Q b Ts Li h k n pc' L S) : Run C Z R w To f Q b Ts Li h k n pc L (.ref a :: S) := by
  subst hp
  exact kk.one fun T vm0 locs t X kt => XS.ifnullNo X.here H.1 rfl (H.dec hd) rfl kt
theorem r_ifnonnullT (H : Stn C Z own by_ mL rt nm q) (pc' : Nat) {o : Int} {a : Addr} (hd : decode by_ pc = .ok (.ifnonnull o, 3)) (ho : 0 ≤ (pc : Int) + o) (hp : ((pc : Int) + o).toNat = pc') (kk : Run C Z R w To f Q b Ts Li h k n pc' L S) : Run C Z R w To f Q b Ts Li h k n pc L (.ref a :: S) := by
  exact kk.one fun T vm0 locs t X kt => XS.ifnonnullYes X.here H.1 rfl rfl (H.dec hd) rfl ho hp kt
theorem r_ifnonnullF (H : Stn C Z own by_ mL rt nm q) (pc' : Nat) {o : Int} (hd : decode by_ pc = .ok (.ifnonnull o, 3)) (hp : pc' = pc + 3) (kk : Run C Z R w To f Q b Ts Li h k n pc' L S) : Run C Z R w To f Q b Ts Li h k n pc L (.null :: S) := by
  subst hp
  exact kk.one fun T vm0 locs t X kt => XS.ifnonnullNo X.here H.1 rfl (H.dec hd) rfl kt
theorem r_acmp (H : Stn C Z own by_ mL rt nm q) (pc' : Nat) {cd : ClassFile.ACond} {x y : Value} {o : Int} (same : Bool) (hd : decode by_ pc = .ok (.if_acmp cd o, 3)) (h1 : x.isRef = true) (h2 : y.isRef = true) (hq : decide (x = y) = same) (ho : 0 ≤ (pc : Int) + o) (hp : pc' = if acV cd same = true then ((pc : Int) + o).toNat else pc + 3) (kk : Run C Z R w To f Q b Ts Li h k n pc' L S) : Run C Z R w To f Q b Ts Li h k n pc L (y :: x :: S) := by
  exact kk.one fun T vm0 locs t X kt => Jvm.RoadKit.acmp X H.1 rfl h1 h2 rfl (H.dec hd) rfl hq ho hp kt
/-! returns -/
theorem Pos.done {T : State} {vm0 : Vm} {locs : List Loc} (H : Stn C Z own by_ mL rt nm q) (P : Pos C Z R w b Ts Li h k n T vm0 locs) {v : Option Value} (hv : rt = none → v = none) (hk : k ≤ R.cells) (hn : n ≤ R.slots) (hf : f ≤ b) (hT : ∀ t ∈ Ts, t ∈ To) (hQ : Q v h) {g : JFrame}
    (st : ∀ fs, (∀ (f : JFrame) (acts : List Action), f.method = C.m → f.locked = none → f.entered = [] → (doReturn C.e (T.setTop f) acts v).1 = T.setFrames fs) → Steps C.p.tables C.e C.bl (T.setTop g) (T.setFrames fs)) : Gl C Z R w To f Q (T.setTop g) := by
  obtain ⟨X, hZ, eT, hS, hI, hw, N, hz, hE, hq, hL⟩ := P
  have hlk : C.mt.locks = false := H.2.2.2.2.1
  have hv' : C.mt.sig.returnType = none → v = none := fun e => hv (by rw [← H.2.2.2.1]; exact e)
  have hin : T.vm.interned = vm0.interned := X.warmed.interned_eq
  cases w with
  | false =>
    have e0 := hw rfl
    subst e0
    obtain ⟨fs, hr, hrun, hended, hW, hsame⟩ := Stand.leave (s := C.s) X (v := v) hv' hlk
    exact ⟨_, _, st fs hr, hrun, hended, v, locs, rfl, ⟨by show Q v T.heap; rw [eT]; exact hQ, fr_low N hf, by show Ext Z.heap T.heap; rw [eT]; exact hE, ib_mono (ib_same hI hin) hT⟩, ⟨v, rfl⟩, hW, hsame.mono hk hn⟩
  | true =>
    obtain ⟨fs, hr, hrun, hended, h1, h2, h3, hsame⟩ := Stand.leaveW X (v := v) hS (Nat.le_of_eq (by rw [eT])) hv' hlk
    exact ⟨_, _, st fs hr, hrun, hended, v, locs, rfl, ⟨by show Q v T.heap; rw [eT]; exact hQ, fr_low N hf, by show Ext Z.heap T.heap; rw [eT]; exact hE, ib_mono (ib_same hI hin) hT⟩, h1, h2, h3, hsame.mono hk hn⟩
theorem r_return (H : Stn C Z own by_ mL none nm q) (hd : decode by_ pc = .ok (.return_, 1)) (hk : k ≤ R.cells) (hn : n ≤ R.slots) (hf : f ≤ b) (hT : ∀ t ∈ Ts, t ∈ To) (hQ : Q none h) : Run C Z R w To f Q b Ts Li h k n pc L [] := fun T vm0 locs P =>
  P.done H (v := none) (fun _ => rfl) hk hn hf hT hQ fun fs hr => P.1.returnOut H.1 H.2.2.2.1 (H.dec hd) hr
theorem retI' {p : Program} {l : Launch} {e : Env} {R : Room} {s : State} {m : MethodId} {args : Array Value} {below : List Frame} {meth : Method} {c : ClassFile.Code} {T : State} {locs : List Loc} {cells slots : Nat} (X : Stand p l e R s m args below meth c T locs cells slots) (hx : p.tables.exec = Jvm.exec) {pc : Nat} {Ls : Array Slot} {z : Int32} {rest : List Value} (hret : meth.sig.returnType = some .int) (hd : decode c.code pc = .ok (.ireturn, 1)) {fs : List Frame}
    (hl : ∀ (f : JFrame) (acts : List Action), f.method = m → f.locked = none → f.entered = [] → (doReturn e (T.setTop f) acts (some (.int z))).1 = T.setFrames fs) : Steps p.tables e below (T.setTop (mkF m pc Ls (.int z :: rest))) (T.setFrames fs) := retOut X hx hret rfl (Or.inl ⟨rfl, Or.inl rfl, z, rfl⟩) hd hl
theorem r_ireturn {z : Int32} (H : Stn C Z own by_ mL (some .int) nm q) (hd : decode by_ pc = .ok (.ireturn, 1)) (hk : k ≤ R.cells) (hn : n ≤ R.slots) (hf : f ≤ b) (hT : ∀ t ∈ Ts, t ∈ To) (hQ : Q (some (.int z)) h) : Run C Z R w To f Q b Ts Li h k n pc L (.int z :: S) := fun T vm0 locs P =>
  P.done H (v := some (.int z)) (fun e => by cases e) hk hn hf hT hQ fun fs hr => retI' P.1 H.1 H.2.2.2.1 (H.dec hd) hr
theorem r_nreturn {z : Int32} (z' : Int32) {t : FieldType} (H : Stn C Z own by_ mL (some t) nm q) (ht : t = .boolean ∨ t = .byte ∨ t = .char ∨ t = .short) (hd : decode by_ pc = .ok (.ireturn, 1)) (hz : nar t z = z') (hk : k ≤ R.cells) (hn : n ≤ R.slots) (hf : f ≤ b) (hT : ∀ t ∈ Ts, t ∈ To) (hQ : Q (some (.int z')) h) : Run C Z R w To f Q b Ts Li h k n pc L (.int z :: S) := fun T vm0 locs P => by
  subst hz
  exact P.done H (v := some (.int (nar t z))) (fun e => by cases e) hk hn hf hT hQ fun fs hr => retN P.1 H.1 H.2.2.2.1 ht (H.dec hd) hr
theorem r_areturn {v : Value} {t : FieldType} (H : Stn C Z own by_ mL (some t) nm q) (ht : t.isReference = true) (hv : v.isRef = true) (hd : decode by_ pc = .ok (.areturn, 1)) (hk : k ≤ R.cells) (hn : n ≤ R.slots) (hf : f ≤ b) (hT : ∀ t ∈ Ts, t ∈ To) (hQ : Q (some v) h) : Run C Z R w To f Q b Ts Li h k n pc L (v :: S) := fun T vm0 locs P =>
  P.done H (v := some v) (fun e => by cases e) hk hn hf hT hQ fun fs hr => retOut P.1 H.1 H.2.2.2.1 (by rcases ref_cases hv with rfl | ⟨a, rfl⟩ <;> cases t <;> first | rfl | simp [FieldType.isReference] at ht) (Or.inr (Or.inr (Or.inr (Or.inr ⟨rfl, ht, hv⟩)))) (H.dec hd) hr
theorem r_lreturn {z : Int64} (H : Stn C Z own by_ mL (some .long) nm q) (hd : decode by_ pc = .ok (.lreturn, 1)) (hk : k ≤ R.cells) (hn : n ≤ R.slots) (hf : f ≤ b) (hT : ∀ t ∈ Ts, t ∈ To) (hQ : Q (some (.long z)) h) : Run C Z R w To f Q b Ts Li h k n pc L (.long z :: S) := fun T vm0 locs P =>
  P.done H (v := some (.long z)) (fun e => by cases e) hk hn hf hT hQ fun fs hr => retOut P.1 H.1 H.2.2.2.1 rfl (Or.inr (Or.inl ⟨rfl, rfl, z, rfl⟩)) (H.dec hd) hr
/-! steps that read or turn the heap -/
/-- a step by a law that hands back a state with the heap as it was -/
theorem Run.hold {pc' : Nat} {L' : Array Slot} {S' : List Value} (g : ∀ T vm0 locs, Pos C Z R w b Ts Li h k n T vm0 locs → ∃ T', Stand C.p C.l C.e R (C.s.setVm vm0) C.m C.a C.bl C.mt C.c T' locs k n ∧ T'.heap = h ∧ ∀ t, Steps C.p.tables C.e C.bl (T'.setTop (mkF C.m pc' L' S')) t → Steps C.p.tables C.e C.bl (T.setTop (mkF C.m pc L S)) t)
    (kk : Run C Z R w To f Q b Ts Li h k n pc' L' S') : Run C Z R w To f Q b Ts Li h k n pc L S := fun T vm0 locs P => by
  obtain ⟨T', X', e', st⟩ := g T vm0 locs P
  obtain ⟨X, hZ, eT, r⟩ := P
  obtain ⟨s₂, o, h1, r'⟩ := kk T' vm0 locs ⟨X', hZ, e', r⟩
  exact ⟨s₂, o, st _ h1, r'⟩
theorem Pos.cl {T : State} {vm0 : Vm} {locs : List Loc} (P : Pos C Z R w b Ts Li h k n T vm0 locs) (H : Stn C Z own by_ mL rt nm q) : (C.s.setVm vm0).vm.findClass own = some C.m.cls := H.cl P.2.2.2.1
theorem r_getf (H : Stn C Z own by_ mL rt nm q) (pc' : Nat) {idx : Nat} {R0 O fn d : String} {a : Addr} {v : Value} (hd : decode by_ pc = .ok (.getfield idx, 3)) (w1 : (Cond.fieldLink own idx R0 fn d).before a0 Z = true) (via : Via Z R0 O fn d) (F : Fld Z h a O fn d v) (hp : pc' = pc + 3)
    (kk : Run C Z R w To f Q b Ts Li h k n pc' L (v :: S)) : Run C Z R w To f Q b Ts Li h k n pc L (.ref a :: S) := by
  subst hp
  exact kk.hold fun T vm0 locs P => getF (host := "") P.1 H.1 P.2.1 (P.cl H) (Or.inl w1) via P.2.2.1 F (g := mkF C.m pc L (.ref a :: S)) rfl rfl (H.dec hd)
theorem r_gets (H : Stn C Z own by_ mL rt nm q) (pc' : Nat) {idx : Nat} {R0 O fn d : String} {v : Value} (hd : decode by_ pc = .ok (.getstatic idx, 3)) (w1 : (Cond.fieldLink own idx R0 fn d).before a0 Z = true) (via : Via Z R0 O fn d) (F : Sta Z Z.heap O fn d v) (hp : pc' = pc + 3)
    (kk : Run C Z R w To f Q b Ts Li h k n pc' L (v :: S)) : Run C Z R w To f Q b Ts Li h k n pc L S := by
  subst hp
  exact kk.hold fun T vm0 locs P => getS2 (host := "") P.1 H.1 P.2.1 (P.cl H) (Or.inl w1) via P.2.2.1 (F.ext P.2.2.2.2.2.2.2.2.1) (g := mkF C.m pc L S) rfl (H.dec hd)
theorem r_initO (H : Stn C Z own by_ mL rt nm q) (pc' : Nat) {idx : Nat} {a : Addr} (hd : decode by_ pc = .ok (.invokespecial idx, 3)) (w1 : (Cond.methodLink own idx Lib.objectInit).before a0 Z = true) (w2 : (Cond.instanceMethod Lib.objectInit).before a0 Z = true) (w3 : (Cond.code Lib.objectInit ⟨#[0xb1]⟩ 1 none).before a0 Z = true) (hL : L.size = mL) (hf : 1 ≤ R.frames) {W : Nat} (hW : (S.map fun v => v.category).sum ≤ W) (hl : W + 12 ≤ R.locals) (hp : pc' = pc + 3)
    (kk : Run C Z R w To f Q b Ts Li h k n pc' L S) : Run C Z R w To f Q b Ts Li h k n pc L (.ref a :: S) := by
  subst hp
  exact kk.hold fun T vm0 locs P => initO P.1 H.1 P.2.1 (P.cl H) w1 w2 w3 P.2.2.1 (g := mkF C.m pc L (.ref a :: S)) rfl (by rw [H.2.2.1]; exact hL) rfl (H.dec hd) hf (W := W) (by show 2 * 0 + _ ≤ _; omega) hl
theorem r_castY (H : Stn C Z own by_ mL rt nm q) (pc' : Nat) {idx : Nat} {K : String} {a : Addr} (hd : decode by_ pc = .ok (.checkcast idx, 3)) (w1 : (Cond.classLink own idx K).before a0 Z = true) (F : Ins Z h a K true) (hp : pc' = pc + 3)
    (kk : Run C Z R w To f Q b Ts Li h k n pc' L (.ref a :: S)) : Run C Z R w To f Q b Ts Li h k n pc L (.ref a :: S) := by
  subst hp
  exact kk.hold fun T vm0 locs P => castY P.1 H.1 P.2.1 (P.cl H) w1 P.2.2.1 F (g := mkF C.m pc L (.ref a :: S)) rfl rfl (H.dec hd)
theorem r_instY (H : Stn C Z own by_ mL rt nm q) (pc' : Nat) {idx : Nat} {K : String} {a : Addr} (hd : decode by_ pc = .ok (.instanceof idx, 3)) (w1 : (Cond.classLink own idx K).before a0 Z = true) (F : Ins Z h a K true) (hp : pc' = pc + 3)
    (kk : Run C Z R w To f Q b Ts Li h k n pc' L (.int 1 :: S)) : Run C Z R w To f Q b Ts Li h k n pc L (.ref a :: S) := by
  subst hp
  exact kk.hold fun T vm0 locs P => instY P.1 H.1 P.2.1 (P.cl H) w1 P.2.2.1 F (g := mkF C.m pc L (.ref a :: S)) rfl rfl (H.dec hd)
theorem r_ldcI (H : Stn C Z own by_ mL rt nm q) (pc' : Nat) {idx : Nat} {v : Int32} (hd : decode by_ pc = .ok (.ldc idx, 2)) (w1 : (Cond.constant own idx v).before a0 Z = true) (hp : pc' = pc + 2)
    (kk : Run C Z R w To f Q b Ts Li h k n pc' L (.int v :: S)) : Run C Z R w To f Q b Ts Li h k n pc L S := by
  subst hp
  exact kk.hold fun T vm0 locs P => ⟨T, P.1, P.2.2.1, P.1.ldcInt H.1 (P.cl H) (mvT (s := C.s.setVm vm0) P.2.1 w1) (g := mkF C.m pc L S) rfl (H.dec hd)⟩
theorem r_ldcJ (H : Stn C Z own by_ mL rt nm q) (pc' : Nat) {idx : Nat} {v : Int64} (hd : decode by_ pc = .ok (.ldc2_w idx, 3)) (w1 : (Cond.constantLong own idx v).before a0 Z = true) (hp : pc' = pc + 3)
    (kk : Run C Z R w To f Q b Ts Li h k n pc' L (.long v :: S)) : Run C Z R w To f Q b Ts Li h k n pc L S := by
  subst hp
  exact kk.hold fun T vm0 locs P => ⟨T, P.1, P.2.2.1, P.1.ldc2Long H.1 (P.cl H) (mvT (s := C.s.setVm vm0) P.2.1 w1) (g := mkF C.m pc L S) rfl (H.dec hd)⟩
/-! arrays: the whole list of components -/
def Ar (Z : State) (h : Heap) (a : Addr) (kc : ClassId) (ty : FieldType) (vs : List Value) : Prop := ∃ c : Cell, Arr Z h a c ty ∧ c.cls = kc ∧ c.slots = vs.toArray ∧ vs.length < 2 ^ 31 ∧ ∀ v ∈ vs, fits ty v = true
theorem Ar.lt {a : Addr} {kc : ClassId} {ty : FieldType} {vs : List Value} (F : Ar Z h a kc ty vs) : a < h.size := by obtain ⟨c, A, -⟩ := F; exact A.lt
theorem Ar.ext {h' : Heap} {a : Addr} {kc : ClassId} {ty : FieldType} {vs : List Value} (F : Ar Z h a kc ty vs) (E : Ext h h') : Ar Z h' a kc ty vs := by obtain ⟨c, A, r⟩ := F; exact ⟨c, A.ext E, r⟩
theorem Ar.keep {h' : Heap} {a : Addr} {kc : ClassId} {ty : FieldType} {vs : List Value} {ws : List Addr} (F : Ar Z h a kc ty vs) (K : Keep h h' ws) (hn : a ∉ ws) : Ar Z h' a kc ty vs := by obtain ⟨c, A, r⟩ := F; exact ⟨c, ⟨K.2.1 a c A.1 hn, A.2⟩, r⟩
theorem Ar.arv {a : Addr} {kc : ClassId} {ty : FieldType} {vs : List Value} {z : Int32} {dv : Value} (F : Ar Z h a kc ty vs) (hz : z.toNatClampNeg = vs.length) (hn : ¬ z < 0) : Arv Z h a kc ty z vs dv := by
  obtain ⟨c, A, h1, h2, h3, h4⟩ := F
  have hs : c.slots.size = vs.length := by rw [h2]; simp
  refine ⟨c, A, h1, by rw [hs, hz], hn, fun j hj => ?_, fun j hj => ?_⟩
  · rw [hs] at hj; rw [h2]; simp [List.getD_eq_getElem?_getD, hj]
  · rw [hs] at hj; exact h4 _ (by simp [List.getD_eq_getElem?_getD, hj])
theorem Ar.of_arv {a : Addr} {kc : ClassId} {ty : FieldType} {vs : List Value} {z : Int32} {dv : Value} (F : Arv Z h a kc ty z vs dv) (hz : z.toNatClampNeg = vs.length) : Ar Z h a kc ty vs := by
  obtain ⟨c, A, h1, h2, h3, h4, h5⟩ := F
  have hs : c.slots.size = vs.length := by rw [h2, hz]
  refine ⟨c, A, h1, ?_, by rw [← hz]; exact (back32 h3).2, fun v hv => ?_⟩
  · apply Array.ext
    · simpa using hs
    · intro i q1 q2
      have e := h4 i q1
      rw [Array.getElem?_eq_getElem q1] at e
      have hi : i < vs.length := by omega
      rw [List.getD_eq_getElem?_getD, List.getElem?_eq_getElem hi] at e
      simpa using e
  · obtain ⟨i, hi, e⟩ := List.mem_iff_getElem.mp hv
    have := h5 i (by omega)
    rw [List.getD_eq_getElem?_getD, List.getElem?_eq_getElem hi] at this
    rw [← e]; exact this
theorem Ar.new {a : Addr} {kc : ClassId} {ty : FieldType} {z : Int32} (A : Arr Z h a (newA kc ty z) ty) (hn : ¬ z < 0) : Ar Z h a kc ty (List.replicate z.toNatClampNeg (defaultValue ty)) :=
  ⟨_, A, rfl, by simp [newA], by simpa using (back32 hn).2, fun v hv => by rw [List.eq_of_mem_replicate hv]; cases ty <;> rfl⟩
theorem Ar.put {h' : Heap} {a : Addr} {kc : ClassId} {ty : FieldType} {vs : List Value} {i : Nat} {v : Value} (F : Ar Z h a kc ty vs) (W : Wr h h' a i v) (hv : fits ty v = true) : Ar Z h' a kc ty (vs.set i v) := by
  obtain ⟨c, A, h1, h2, h3, h4⟩ := F
  refine ⟨_, A.same W, h1, ?_, by simpa using h3, fun u hu => ?_⟩
  · simp [Cell.setSlot, h2]
  · rcases List.mem_or_eq_of_mem_set hu with q | q
    · exact h4 u q
    · rw [q]; exact hv
theorem Ar.size {a : Addr} {kc : ClassId} {ty : FieldType} {vs : List Value} {c : Cell} (A : Arr Z h a c ty) (F : Ar Z h a kc ty vs) : c.slots = vs.toArray ∧ vs.length < 2 ^ 31 := by
  obtain ⟨c', A', h1, h2, h3, h4⟩ := F
  cases A.1.symm.trans A'.1
  exact ⟨h2, h3⟩
theorem ld_in {vs : List Value} {j : Int32} {v : Value} {c : Cell} (hs : c.slots = vs.toArray) (hj : ¬ j < 0) (hv : vs[j.toNatClampNeg]? = some v) : ¬ (j < 0 ∨ c.slots.size ≤ j.toNatClampNeg) ∧ c.slots[j.toNatClampNeg]? = some v := by
  refine ⟨fun q => q.elim hj fun u => ?_, by rw [hs]; simpa using hv⟩
  rw [hs] at u
  have := (List.getElem?_eq_some_iff.mp hv).1
  simp at u; omega
theorem r_alen (H : Stn C Z own by_ mL rt nm q) (pc' : Nat) {a : Addr} {kc : ClassId} {ty : FieldType} {vs : List Value} (z : Int32) (hd : decode by_ pc = .ok (.arraylength, 1)) (F : Ar Z h a kc ty vs) (hz : vs.length.toInt32 = z) (hp : pc' = pc + 1)
    (kk : Run C Z R w To f Q b Ts Li h k n pc' L (.int z :: S)) : Run C Z R w To f Q b Ts Li h k n pc L (.ref a :: S) := by
  subst hp hz
  refine kk.hold fun T vm0 locs P => ?_
  obtain ⟨c, A, h1, h2, h3, h4⟩ := F
  refine ⟨T, P.1, P.2.2.1, fun t kt => ?_⟩
  refine P.1.arraylength H.1 (by rw [P.2.2.1]; exact A.1) (State.isArrayOf_alike P.2.1.alike A.2.1) (g := mkF C.m pc L (.ref a :: S)) rfl rfl (H.dec hd) _ ?_
  have e : c.slots.size.toInt32 = vs.length.toInt32 := by rw [h2]; simp
  rw [e]; exact kt
theorem r_caload (H : Stn C Z own by_ mL rt nm q) (pc' : Nat) {a : Addr} {kc : ClassId} {vs : List Value} {j : Int32} (v : Int32) (hd : decode by_ pc = .ok (.caload, 1)) (F : Ar Z h a kc .char vs) (hj : ¬ j < 0) (hv : vs[j.toNatClampNeg]? = some (.int v)) (hp : pc' = pc + 1) (kk : Run C Z R w To f Q b Ts Li h k n pc' L (.int v :: S)) : Run C Z R w To f Q b Ts Li h k n pc L (.int j :: .ref a :: S) := by
  subst hp
  refine kk.hold fun T vm0 locs P => ?_
  obtain ⟨c, A, h1, h2, h3, h4⟩ := F
  obtain ⟨q1, q2⟩ := ld_in h2 hj hv
  exact ⟨T, P.1, P.2.2.1, P.1.caload H.1 (by rw [P.2.2.1]; exact A.1) (State.isArrayOf_alike P.2.1.alike A.2.1) A.2.2 q1 q2 (g := mkF C.m pc L (.int j :: .ref a :: S)) rfl rfl (H.dec hd)⟩
theorem r_iaload (H : Stn C Z own by_ mL rt nm q) (pc' : Nat) {a : Addr} {kc : ClassId} {vs : List Value} {j : Int32} (v : Int32) (hd : decode by_ pc = .ok (.iaload, 1)) (F : Ar Z h a kc .int vs) (hj : ¬ j < 0) (hv : vs[j.toNatClampNeg]? = some (.int v)) (hp : pc' = pc + 1) (kk : Run C Z R w To f Q b Ts Li h k n pc' L (.int v :: S)) : Run C Z R w To f Q b Ts Li h k n pc L (.int j :: .ref a :: S) := by
  subst hp
  refine kk.hold fun T vm0 locs P => ?_
  obtain ⟨c, A, h1, h2, h3, h4⟩ := F
  obtain ⟨q1, q2⟩ := ld_in h2 hj hv
  exact ⟨T, P.1, P.2.2.1, P.1.iaload H.1 (by rw [P.2.2.1]; exact A.1) (State.isArrayOf_alike P.2.1.alike A.2.1) A.2.2 q1 q2 (g := mkF C.m pc L (.int j :: .ref a :: S)) rfl rfl (H.dec hd)⟩
theorem r_baload (H : Stn C Z own by_ mL rt nm q) (pc' : Nat) {a : Addr} {kc : ClassId} {vs : List Value} {j : Int32} (v : Int32) (hd : decode by_ pc = .ok (.baload, 1)) (F : Ar Z h a kc .byte vs) (hj : ¬ j < 0) (hv : vs[j.toNatClampNeg]? = some (.int v)) (hp : pc' = pc + 1) (kk : Run C Z R w To f Q b Ts Li h k n pc' L (.int v :: S)) : Run C Z R w To f Q b Ts Li h k n pc L (.int j :: .ref a :: S) := by
  subst hp
  refine kk.hold fun T vm0 locs P => ?_
  obtain ⟨c, A, h1, h2, h3, h4⟩ := F
  obtain ⟨q1, q2⟩ := ld_in h2 hj hv
  exact ⟨T, P.1, P.2.2.1, P.1.baloadBytes H.1 (by rw [P.2.2.1]; exact A.1) (State.isArrayOf_alike P.2.1.alike A.2.1) A.2.2 q1 q2 (g := mkF C.m pc L (.int j :: .ref a :: S)) rfl rfl (H.dec hd)⟩
theorem r_zaload (H : Stn C Z own by_ mL rt nm q) (pc' : Nat) {a : Addr} {kc : ClassId} {vs : List Value} {j : Int32} (v : Int32) (hd : decode by_ pc = .ok (.baload, 1)) (F : Ar Z h a kc .boolean vs) (hj : ¬ j < 0) (hv : vs[j.toNatClampNeg]? = some (.int v)) (hp : pc' = pc + 1) (kk : Run C Z R w To f Q b Ts Li h k n pc' L (.int v :: S)) : Run C Z R w To f Q b Ts Li h k n pc L (.int j :: .ref a :: S) := by
  subst hp
  refine kk.hold fun T vm0 locs P => ?_
  obtain ⟨c, A, h1, h2, h3, h4⟩ := F
  obtain ⟨q1, q2⟩ := ld_in h2 hj hv
  refine ⟨T, P.1, P.2.2.1, fun t kt => ?_⟩
  have hA := State.isArrayOf_alike (T := T) (P.2.1.alike.trans P.1.warmed.alike) A.2.1
  jvm_step P.1.here [P.1.here.top, H.1, H.dec hd, baload.wp_booleans (e := C.e) (s := T) (f := mkF C.m pc L (.int j :: .ref a :: S)) P.1.here.top rfl (by rw [P.2.2.1]; exact A.1) hA q1 A.2.2 q2]
  exact kt
theorem r_aaload (H : Stn C Z own by_ mL rt nm q) (pc' : Nat) {a : Addr} {kc : ClassId} {ty : FieldType} {vs : List Value} {j : Int32} (v : Value) (hd : decode by_ pc = .ok (.aaload, 1)) (F : Ar Z h a kc ty vs) (ht : ty.isReference = true) (hj : ¬ j < 0) (hv : vs[j.toNatClampNeg]? = some v) (hp : pc' = pc + 1) (kk : Run C Z R w To f Q b Ts Li h k n pc' L (v :: S)) : Run C Z R w To f Q b Ts Li h k n pc L (.int j :: .ref a :: S) := by
  subst hp
  refine kk.hold fun T vm0 locs P => ?_
  obtain ⟨c, A, h1, h2, h3, h4⟩ := F
  obtain ⟨q1, q2⟩ := ld_in h2 hj hv
  exact ⟨T, P.1, P.2.2.1, P.1.aaload H.1 (by rw [P.2.2.1]; exact A.1) (State.isArrayOf_alike P.2.1.alike A.2.1) ht A.2.2 q1 q2 (g := mkF C.m pc L (.int j :: .ref a :: S)) rfl rfl (H.dec hd)⟩
theorem Run.write {pc' : Nat} {L' : Array Slot} {S' : List Value} {a : Addr} {sl : Nat} {v : Value} (hb : b ≤ a) (g : ∀ T vm0 locs, Pos C Z R w b Ts Li h k n T vm0 locs → ∃ T' h', Stand C.p C.l C.e R (C.s.setVm vm0) C.m C.a C.bl C.mt C.c T' (locs ++ [⟨a, sl⟩]) k n ∧ T'.heap = h' ∧ Wr h h' a sl v ∧ ∀ t, Steps C.p.tables C.e C.bl (T'.setTop (mkF C.m pc' L' S')) t → Steps C.p.tables C.e C.bl (T.setTop (mkF C.m pc L S)) t)
    (kk : ∀ h', Wr h h' a sl v → Keep h h' [a] → Run C Z R w To f Q b Ts Li h' k n pc' L' S') : Run C Z R w To f Q b Ts Li h k n pc L S := fun T vm0 locs P => by
  obtain ⟨T', h', X', e', W, st⟩ := g T vm0 locs P
  obtain ⟨X, hZ, eT, hS, hI, hw, N, hz, hE, hq, hL⟩ := P
  have K := Keep.of_wr W
  have hE' : Ext Z.heap h' := (Old.wr (n0 := Z.heap.size) ⟨rfl, hE⟩ W (Nat.le_trans hz hb)).2
  obtain ⟨s₂, o, h1, r'⟩ := kk h' W K T' vm0 _ ⟨X', hZ, e', since_same hS K.1, hI, hw, Fr.snoc X' N hb, hz, hE', Nat.le_trans hq K.1, hL⟩
  exact ⟨s₂, o, st _ h1, r'⟩
theorem r_castore (H : Stn C Z own by_ mL rt nm q) (pc' : Nat) {a : Addr} {kc : ClassId} {vs : List Value} {j x : Int32} (y : Int32) (hd : decode by_ pc = .ok (.castore, 1)) (F : Ar Z h a kc .char vs) (hj : ¬ j < 0) (hi : j.toNatClampNeg < vs.length) (hb : b ≤ a) (hy : (nar .char x) = y) (hp : pc' = pc + 1) (kk : ∀ h', Keep h h' [a] → Ar Z h' a kc .char (vs.set j.toNatClampNeg (.int y)) → Run C Z R w To f Q b Ts Li h' k n pc' L S) : Run C Z R w To f Q b Ts Li h k n pc L (.int x :: .int j :: .ref a :: S) := by
  subst hp hy
  obtain ⟨c, A, h1, h2, h3, h4⟩ := id F
  have hin : ¬ (j < 0 ∨ c.slots.size ≤ j.toNatClampNeg) := fun q => q.elim hj fun u => by rw [h2] at u; simp at u; omega
  exact Run.write hb (fun T vm0 locs P => stC P.1 H.1 P.2.1 P.2.2.1 A hin (g := mkF C.m pc L (.int x :: .int j :: .ref a :: S)) rfl rfl (H.dec hd)) fun h' W K => kk h' K (F.put W (fits_nar_char _))
theorem r_bastore (H : Stn C Z own by_ mL rt nm q) (pc' : Nat) {a : Addr} {kc : ClassId} {vs : List Value} {j x : Int32} (y : Int32) (hd : decode by_ pc = .ok (.bastore, 1)) (F : Ar Z h a kc .byte vs) (hj : ¬ j < 0) (hi : j.toNatClampNeg < vs.length) (hb : b ≤ a) (hy : (nar .byte x) = y) (hp : pc' = pc + 1) (kk : ∀ h', Keep h h' [a] → Ar Z h' a kc .byte (vs.set j.toNatClampNeg (.int y)) → Run C Z R w To f Q b Ts Li h' k n pc' L S) : Run C Z R w To f Q b Ts Li h k n pc L (.int x :: .int j :: .ref a :: S) := by
  subst hp hy
  obtain ⟨c, A, h1, h2, h3, h4⟩ := id F
  have hin : ¬ (j < 0 ∨ c.slots.size ≤ j.toNatClampNeg) := fun q => q.elim hj fun u => by rw [h2] at u; simp at u; omega
  exact Run.write hb (fun T vm0 locs P => stB P.1 H.1 P.2.1 P.2.2.1 A hin (g := mkF C.m pc L (.int x :: .int j :: .ref a :: S)) rfl rfl (H.dec hd)) fun h' W K => kk h' K (F.put W (fits_nar_byte _))
theorem r_zastore (H : Stn C Z own by_ mL rt nm q) (pc' : Nat) {a : Addr} {kc : ClassId} {vs : List Value} {j x : Int32} (y : Int32) (hd : decode by_ pc = .ok (.bastore, 1)) (F : Ar Z h a kc .boolean vs) (hj : ¬ j < 0) (hi : j.toNatClampNeg < vs.length) (hb : b ≤ a) (hy : (nar .boolean x) = y) (hp : pc' = pc + 1) (kk : ∀ h', Keep h h' [a] → Ar Z h' a kc .boolean (vs.set j.toNatClampNeg (.int y)) → Run C Z R w To f Q b Ts Li h' k n pc' L S) : Run C Z R w To f Q b Ts Li h k n pc L (.int x :: .int j :: .ref a :: S) := by
  subst hp hy
  obtain ⟨c, A, h1, h2, h3, h4⟩ := id F
  have hin : ¬ (j < 0 ∨ c.slots.size ≤ j.toNatClampNeg) := fun q => q.elim hj fun u => by rw [h2] at u; simp at u; omega
  exact Run.write hb (fun T vm0 locs P => stZ P.1 H.1 P.2.1 P.2.2.1 A hin (g := mkF C.m pc L (.int x :: .int j :: .ref a :: S)) rfl rfl (H.dec hd)) fun h' W K => kk h' K (F.put W (fits_nar_bool _))
theorem r_iastore (H : Stn C Z own by_ mL rt nm q) (pc' : Nat) {a : Addr} {kc : ClassId} {vs : List Value} {j x : Int32} (y : Int32) (hd : decode by_ pc = .ok (.iastore, 1)) (F : Ar Z h a kc .int vs) (hj : ¬ j < 0) (hi : j.toNatClampNeg < vs.length) (hb : b ≤ a) (hy : x = y) (hp : pc' = pc + 1) (kk : ∀ h', Keep h h' [a] → Ar Z h' a kc .int (vs.set j.toNatClampNeg (.int y)) → Run C Z R w To f Q b Ts Li h' k n pc' L S) : Run C Z R w To f Q b Ts Li h k n pc L (.int x :: .int j :: .ref a :: S) := by
  subst hp hy
  obtain ⟨c, A, h1, h2, h3, h4⟩ := id F
  have hin : ¬ (j < 0 ∨ c.slots.size ≤ j.toNatClampNeg) := fun q => q.elim hj fun u => by rw [h2] at u; simp at u; omega
  exact Run.write hb (fun T vm0 locs P => stI P.1 H.1 P.2.1 P.2.2.1 A hin (g := mkF C.m pc L (.int x :: .int j :: .ref a :: S)) rfl rfl (H.dec hd)) fun h' W K => kk h' K (F.put W rfl)
theorem r_aastore (H : Stn C Z own by_ mL rt nm q) (pc' : Nat) {a : Addr} {kc : ClassId} {ty : FieldType} {vs : List Value} {j : Int32} {v : Value} (hd : decode by_ pc = .ok (.aastore, 1)) (F : Ar Z h a kc ty vs) (ht : ty.isReference = true) (hv : v.isRef = true) (hs : Sto Z h a v) (hj : ¬ j < 0) (hi : j.toNatClampNeg < vs.length) (hb : b ≤ a) (hp : pc' = pc + 1) (kk : ∀ h', Keep h h' [a] → Ar Z h' a kc ty (vs.set j.toNatClampNeg v) → Run C Z R w To f Q b Ts Li h' k n pc' L S) : Run C Z R w To f Q b Ts Li h k n pc L (v :: .int j :: .ref a :: S) := by
  subst hp
  obtain ⟨c, A, h1, h2, h3, h4⟩ := id F
  have hin : ¬ (j < 0 ∨ c.slots.size ≤ j.toNatClampNeg) := fun q => q.elim hj fun u => by rw [h2] at u; simp at u; omega
  exact Run.write hb (fun T vm0 locs P => stR P.1 H.1 P.2.1 P.2.2.1 A hin ht hs (g := mkF C.m pc L (v :: .int j :: .ref a :: S)) rfl rfl (H.dec hd)) fun h' W K => kk h' K (F.put W (by rcases ref_cases hv with rfl | ⟨y, rfl⟩ <;> cases ty <;> first | rfl | simp [FieldType.isReference] at ht))
theorem r_putf (H : Stn C Z own by_ mL rt nm q) (pc' : Nat) {idx kk0 : Nat} {R0 O fn d CC : String} {ty : FieldType} {a : Addr} {v old : Value} (hd : decode by_ pc = .ok (.putfield idx, 3)) (w1 : (Cond.fieldLink own idx R0 fn d).before a0 Z = true) (via : Via Z R0 O fn d) (F : Fld Z h a O fn d old) (E : Exa Z h a CC) (wl : (Cond.lays CC O fn d).before a0 Z = true ∨ ((Cond.laysFinal CC O fn d).before a0 Z = true ∧ own = O ∧ nm = "<init>")) (wi : (Cond.instantiable CC kk0).before a0 Z = true) (hty : parseFieldDescriptor d = some ty) (hn : narrow ty v = v) (hf' : fits ty v = true) (hb : b ≤ a) (hp : pc' = pc + 3) (kk : ∀ h', Wr h h' a (Jvm.RoadKit.slotOf Z O fn d) v → Keep h h' [a] → Exa Z h' a CC → Fld Z h' a O fn d v → Run C Z R w To f Q b Ts Li h' k n pc' L S) : Run C Z R w To f Q b Ts Li h k n pc L (v :: .ref a :: S) := by
  subst hp
  exact Run.write hb (fun T vm0 locs P => putF (host := "") P.1 H.1 P.2.1 (P.cl H) (Or.inl w1) via P.2.2.1 F E (wl.imp id fun z => ⟨z.1, z.2.1, H.2.2.2.2.2.1.trans z.2.2⟩) wi hty hn hf' (g := mkF C.m pc L (v :: .ref a :: S)) rfl rfl (H.dec hd)) fun h' W K => kk h' W K (E.wr W) (F.same W)
theorem r_putn (H : Stn C Z own by_ mL rt nm q) (pc' : Nat) {idx kk0 : Nat} {R0 O fn d CC : String} {ty : FieldType} {a : Addr} {v old : Value} (v' : Value) (hd : decode by_ pc = .ok (.putfield idx, 3)) (w1 : (Cond.fieldLink own idx R0 fn d).before a0 Z = true) (via : Via Z R0 O fn d) (F : Fld Z h a O fn d old) (E : Exa Z h a CC) (wl : (Cond.lays CC O fn d).before a0 Z = true ∨ ((Cond.laysFinal CC O fn d).before a0 Z = true ∧ own = O ∧ nm = "<init>")) (wi : (Cond.instantiable CC kk0).before a0 Z = true) (hty : parseFieldDescriptor d = some ty) (hn : narrow ty v = v') (hf' : fits ty v' = true) (hb : b ≤ a) (hp : pc' = pc + 3) (kk : ∀ h', Wr h h' a (Jvm.RoadKit.slotOf Z O fn d) v' → Keep h h' [a] → Exa Z h' a CC → Fld Z h' a O fn d v' → Run C Z R w To f Q b Ts Li h' k n pc' L S) : Run C Z R w To f Q b Ts Li h k n pc L (v :: .ref a :: S) := by
  subst hp
  exact Run.write hb (fun T vm0 locs P => putFN P.1 H.1 P.2.1 (P.cl H) w1 via P.2.2.1 F E (wl.imp id fun z => ⟨z.1, z.2.1, H.2.2.2.2.2.1.trans z.2.2⟩) wi hty hn hf' (g := mkF C.m pc L (v :: .ref a :: S)) rfl rfl (H.dec hd)) fun h' W K => kk h' W K (E.wr W) (F.same W)
theorem Run.make {pc' k' n' : Nat} {L' : Array Slot} {S' : List Value} {P' : Heap → Prop} (hkk : k ≤ k') (g : ∀ T vm0 locs, Pos C Z R w b Ts Li h k n T vm0 locs → ∃ T' h', Stand C.p C.l C.e R (C.s.setVm vm0) C.m C.a C.bl C.mt C.c T' locs k' n' ∧ T'.heap = h' ∧ Ext h h' ∧ P' h' ∧ ∀ t, Steps C.p.tables C.e C.bl (T'.setTop (mkF C.m pc' L' S')) t → Steps C.p.tables C.e C.bl (T.setTop (mkF C.m pc L S)) t)
    (kk : ∀ h', Ext h h' → P' h' → Run C Z R w To f Q b Ts Li h' k' n' pc' L' S') : Run C Z R w To f Q b Ts Li h k n pc L S := fun T vm0 locs P => by
  obtain ⟨T', h', X', e', E, hP, st⟩ := g T vm0 locs P
  obtain ⟨X, hZ, eT, hS, hI, hw, N, hz, hE, hq, hL⟩ := P
  obtain ⟨s₂, o, h1, r'⟩ := kk h' E hP T' vm0 locs ⟨X', hZ, e', since_same hS E.1, hI, hw, N, hz, ⟨Nat.le_trans hE.1 E.1, fun x c r => E.2 x c (hE.2 x c r)⟩, Nat.le_trans hq E.1, hL⟩
  exact ⟨s₂, o, st _ h1, r'⟩
theorem Keep.of_ext {h h' : Heap} (E : Ext h h') : Keep h h' [] := (Keep.refl h []).ext E
theorem r_new (H : Stn C Z own by_ mL rt nm q) (pc' : Nat) {idx ns : Nat} {CC : String} (hd : decode by_ pc = .ok (.new idx, 3)) (w1 : (Cond.classLink own idx CC).before a0 Z = true) (wi : (Cond.instantiable CC ns).before a0 Z = true) (wz : (Cond.initialized CC).before a0 Z = true) (hc : k + 1 ≤ R.cells) (hl : n + ns ≤ R.slots) (hp : pc' = pc + 3)
    (kk : ∀ h' a, a = h.size → a < h'.size → Keep h h' [] → Exa Z h' a CC → (∀ {O nm d : String} {ty : FieldType}, Laid Z a0 CC O nm d → parseFieldDescriptor d = some ty → Fld Z h' a O nm d (defaultValue ty)) → Run C Z R w To f Q b Ts Li h' (k + 1) (n + ns) pc' L (.ref a :: S)) : Run C Z R w To f Q b Ts Li h k n pc L S := by
  subst hp
  refine Run.make (P' := fun h' => Exa Z h' h.size CC ∧ (∀ {O nm d : String} {ty : FieldType}, Laid Z a0 CC O nm d → parseFieldDescriptor d = some ty → Fld Z h' h.size O nm d (defaultValue ty))) (Nat.le_succ k) (fun T vm0 locs P => ?_) fun h' E hP => kk h' _ rfl hP.1.lt (Keep.of_ext E) hP.1 hP.2
  obtain ⟨T', h', X', e', E, A, D, -, st⟩ := newO P.1 H.1 P.2.1 (P.cl H) w1 wi wz P.2.2.1 (g := mkF C.m pc L S) rfl (H.dec hd) hc hl
  exact ⟨T', h', X', e', E, ⟨A, D⟩, st⟩
theorem r_newP (H : Stn C Z own by_ mL rt nm q) (pc' : Nat) {aty : ArrayType} {z : Int32} (ad : String) (cap : Nat) (hd : decode by_ pc = .ok (.newarray aty, 2)) (w1 : (Cond.arrayClass (newarray.typeOf aty)).before a0 Z = true) (had : "[" ++ (newarray.typeOf aty).toString = ad) (hn : ¬ z < 0) (hcap : z.toNatClampNeg ≤ cap) (hb : cap * 8 ≤ 536870912) (hc : k + 1 ≤ R.cells) (hl : n + cap ≤ R.slots) (hp : pc' = pc + 2)
    (kk : ∀ h' a kc, a = h.size → a < h'.size → Keep h h' [] → Exa Z h' a ad → Ar Z h' a kc (newarray.typeOf aty) (List.replicate z.toNatClampNeg (defaultValue (newarray.typeOf aty))) → Run C Z R w To f Q b Ts Li h' (k + 1) (n + cap) pc' L (.ref a :: S)) : Run C Z R w To f Q b Ts Li h k n pc L (.int z :: S) := by
  subst hp
  refine Run.make (P' := fun h' => ∃ kc, Exa Z h' h.size ad ∧ Ar Z h' h.size kc (newarray.typeOf aty) (List.replicate z.toNatClampNeg (defaultValue (newarray.typeOf aty)))) (Nat.le_succ k) (fun T vm0 locs P => ?_) fun h' E hP => by obtain ⟨kc, h1, h2⟩ := hP; exact kk h' _ kc rfl h2.lt (Keep.of_ext E) h1 h2
  obtain ⟨T', h', cA, X', e', E, A, A2, st⟩ := newPE P.1 H.1 P.2.1 w1 P.2.2.1 (g := mkF C.m pc L (.int z :: S)) rfl (H.dec hd) rfl hn hcap hb hc hl had
  exact ⟨T', h', X', e', E, ⟨cA, A2, Ar.new A hn⟩, st⟩
theorem r_newR (H : Stn C Z own by_ mL rt nm q) (pc' : Nat) {idx : Nat} {CC : String} {z : Int32} (ad : String) (cap : Nat) (hd : decode by_ pc = .ok (.anewarray idx, 3)) (w1 : (Cond.classLink own idx CC).before a0 Z = true) (w2 : (Cond.arrayOver (.object CC)).before a0 Z = true) (had : "[" ++ (FieldType.object CC).toString = ad) (hn : ¬ z < 0) (hcap : z.toNatClampNeg ≤ cap) (hb : cap * 8 ≤ 536870912) (hc : k + 1 ≤ R.cells) (hl : n + cap ≤ R.slots) (hp : pc' = pc + 3)
    (kk : ∀ h' a kc, a = h.size → a < h'.size → Keep h h' [] → Exa Z h' a ad → Ovr Z kc CC → Ar Z h' a kc (.object CC) (List.replicate z.toNatClampNeg .null) → Run C Z R w To f Q b Ts Li h' (k + 1) (n + cap) pc' L (.ref a :: S)) : Run C Z R w To f Q b Ts Li h k n pc L (.int z :: S) := by
  subst hp
  refine Run.make (P' := fun h' => ∃ kc, Exa Z h' h.size ad ∧ Ovr Z kc CC ∧ Ar Z h' h.size kc (.object CC) (List.replicate z.toNatClampNeg .null)) (Nat.le_succ k) (fun T vm0 locs P => ?_) fun h' E hP => by obtain ⟨kc, h1, h2, h3⟩ := hP; exact kk h' _ kc rfl h3.lt (Keep.of_ext E) h1 h2 h3
  obtain ⟨T', h', cA, X', e', E, A, A2, O2, st⟩ := newRE P.1 H.1 P.2.1 (P.cl H) w1 w2 P.2.2.1 (g := mkF C.m pc L (.int z :: S)) rfl (H.dec hd) rfl hn hcap hb hc hl had
  exact ⟨T', h', X', e', E, ⟨cA, A2, O2, Ar.new A hn⟩, st⟩
/-! contracts -/
section Contract
variable {y : MethodName} {yb : ByteArray} {ymL : Nat} {yrt : Option FieldType} {Ry : Room} {Ti To' : List String} {f' : Nat} {as : Array Value} {Qy Qy' : Option Value → Heap → Prop} {ws : List Jvm.Cond}
theorem Con.wide (hc : Con false ws Z y yb ymL yrt Ry Ti To' f' as h Qy) : Con w ws Z y yb ymL yrt Ry Ti To' f' as h Qy := by
  cases w with
  | false => exact hc
  | true =>
    intro l p e ha hca hk s m args below hf happ hP hK
    obtain ⟨n, o, h1, h2, h3, v, L, e1, hQ, hE⟩ := hc l p e ha hca hk s m args below hf happ hP hK
    exact ⟨n, o, h1, h2, h3, v, L, e1, hQ, ReturnedEndW.of_narrow hE.1 hE.2.1 hE.2.2⟩
theorem Con.mono (hc : Con w ws Z y yb ymL yrt Ry Ti To' f' as h Qy) (hq : ∀ v h', Qy v h' → Qy' v h') : Con w ws Z y yb ymL yrt Ry Ti To' f' as h Qy' := by
  intro l p e ha hca hk s m args below hf happ hP hK
  obtain ⟨n, o, h1, h2, h3, v, L, e1, hQ, hE⟩ := hc l p e ha hca hk s m args below hf happ hP hK
  exact ⟨n, o, h1, h2, h3, v, L, e1, ⟨hq _ _ hQ.1, hQ.2⟩, hE⟩
theorem con_of (bb : Nat) (L0 : Array Slot) (hpl : plainFor y = true) (hef : ∀ m, entryFrame m as ymL = mkF m 0 L0 []) (hz : Z.heap.size ≤ bb)
    (body : ∀ C : Cx, Stn C Z y.cls yb ymL yrt y.name h.size → Ext Z.heap h → Run C Z Ry w To' f' Qy bb Ti [] h 0 0 0 L0 []) : Con w ws Z y yb ymL yrt Ry Ti To' f' as h Qy := by
  intro l
  refine MetFree.of_bodySF hpl hisR ?_
  intro p e s m args below meth c s₁ Bd hml0 hP hK
  obtain ⟨rfl, hZ, hh, hI, hE⟩ := hP
  have X0 : Stand p l e Ry s m args below meth c s₁ [] 0 0 := Stand.of_body Bd
  have e0 : s₁.heap = h := by rw [← hh, Bd.state]; rfl
  have H : Stn (p, l, e, s, m, args, below, meth, c) Z y.cls yb ymL yrt y.name h.size := ⟨Bd.exec, Bd.bytes, hml0, Bd.returns, Bd.notSynchronized, (name_of_methodNamed Bd.named Bd.method).1, (by show s.heap.size = _; rw [hh]), (by show Ext Z.heap s.heap; rw [hh]; exact hE), findClass_of_methodNamed Bd.named⟩
  obtain ⟨s₂, o, h1, h2, h3, r⟩ := body (p, l, e, s, m, args, below, meth, c) H hE s₁ s.vm [] ⟨X0, hZ, e0, (State.WarmedH.refl s).since _, hI, fun _ => rfl, Fr.nil _, hz, hE, Nat.le_of_eq (by show s.heap.size = _; rw [hh]), fun _ q => by cases q⟩
  exact ⟨s₂, o, castTop (hef m) h1, h2, h3, r⟩
theorem Con.back {p : Program} {l : Launch} {e : Env} {R : Room} {below : List Frame} {s : State} {args : Array Value} {len W : Nat} (hc : Con false [] Z y yb ymL yrt Ry Ti To' f' as h Qy) (hZ : Z.Warmed39 s.vm) (hI : IB Z s.vm Ti) (hE : Ext Z.heap h)
    (wc : (Cond.code y yb ymL yrt).before a0 Z = true) (wz : (Cond.initialized y.cls).before a0 Z = true) (hf : Ry.frames + 1 ≤ R.frames) (hl : W + (ymL + 11) + Ry.locals ≤ R.locals) :
    Back l R p e below s args y len W (fun A a => a = as ∧ A.U.heap = h ∧ A.cells + Ry.cells ≤ R.cells ∧ A.slots + Ry.slots ≤ R.slots)
      (fun A _ v B => ∃ L, (Qy v B.U.heap ∧ Fr f' L ∧ Ext Z.heap B.U.heap ∧ IB Z B.U.vm To') ∧ B.locs = A.locs ++ L ∧ B.cells = A.cells + Ry.cells ∧ B.slots = A.slots + Ry.slots) :=
  Back.of_free (bytes := yb) (maxL := ymL) (ret := yrt) (E := fun _ _ o t L k n => k = Ry.cells ∧ n = Ry.slots ∧ ∃ v, o = .returned v ∧ (Qy v t.heap ∧ Fr f' L ∧ Ext Z.heap t.heap ∧ IB Z t.vm To')) (hc l) hf hl
    (fun m meth c A a Y hp => have hU : Z.Warmed39 A.U.vm := wtrans hZ Y.warmed
      ⟨by show (Cond.and _ .tt).before a A.U = true; rw [Cond.before_and, mv hU wc]; rfl, mv hU wc, mv hU wz, hp.2.2.1, hp.2.2.2⟩)
    (fun m meth c A a g mk Y hp => ⟨hp.1, wtrans hZ Y.warmed, hp.2.1, ib_same hI Y.warmed.interned_eq, hE⟩) (fun _ _ _ _ _ _ _ _ _ => trivial)
    (fun _ _ _ _ ⟨v, L, h1, h2, h3⟩ => ⟨L, _, _, h3, rfl, rfl, v, h1, h2⟩)
    (fun m meth c A a g mk v t L k n Y hp _ _ ⟨e1, e2, v', e3, e4⟩ => by cases e3; subst e1 e2; exact ⟨L, e4, rfl, rfl, rfl⟩)
theorem Con.backS {p : Program} {l : Launch} {e : Env} {R : Room} {below : List Frame} {s : State} {args : Array Value} {len W : Nat} (hc : Con true [] Z y yb ymL yrt Ry Ti To' f' as h Qy) (hZ : Z.Warmed39 s.vm) (hI : IB Z s.vm Ti) (hE : Ext Z.heap h)
    (wc : (Cond.code y yb ymL yrt).before a0 Z = true) (wz : (Cond.initialized y.cls).before a0 Z = true) (hf : Ry.frames + 1 ≤ R.frames) (hl : W + (ymL + 11) + Ry.locals ≤ R.locals) :
    BackS l R p e below s args y len W (fun A a => a = as ∧ A.U.heap = h ∧ A.cells + Ry.cells ≤ R.cells ∧ A.slots + Ry.slots ≤ R.slots)
      (fun A _ v B => ∃ L, (Qy v B.U.heap ∧ Fr f' L ∧ Ext Z.heap B.U.heap ∧ IB Z B.U.vm To') ∧ B.locs = A.locs ++ L ∧ B.cells = A.cells + Ry.cells ∧ B.slots = A.slots + Ry.slots) :=
  BackS.of_freeW (bytes := yb) (maxL := ymL) (ret := yrt) (E := fun _ _ o t L k n => k = Ry.cells ∧ n = Ry.slots ∧ ∃ v, o = .returned v ∧ (Qy v t.heap ∧ Fr f' L ∧ Ext Z.heap t.heap ∧ IB Z t.vm To')) (hc l) hf hl
    (fun m meth c A a Y hp => have hU : Z.Warmed39 A.U.vm := wtrans hZ Y.warmed
      ⟨by show (Cond.and _ .tt).before a A.U = true; rw [Cond.before_and, mv hU wc]; rfl, mv hU wc, mv hU wz, hp.2.2.1, hp.2.2.2⟩)
    (fun m meth c A a g mk Y hp => ⟨hp.1, wtrans hZ Y.warmed, hp.2.1, ib_same hI Y.warmed.interned_eq, hE⟩) (fun _ _ _ _ _ _ _ _ _ => trivial)
    (fun _ _ _ _ ⟨v, L, h1, h2, h3⟩ => ⟨L, _, _, h3, rfl, rfl, v, h1, h2⟩)
    (fun m meth c A a g mk v t L k n Y hp _ _ ⟨e1, e2, v', e3, e4⟩ => by cases e3; subst e1 e2; exact ⟨L, e4, rfl, rfl, rfl⟩)
theorem Pos.afterN {T : State} {vm0 : Vm} {locs : List Loc} {U : State} {ls : List Loc} {ce sl : Nat} {Lc : List Loc} (P : Pos C Z R false b Ts Li h k n T vm0 locs) (X' : Stand C.p C.l C.e R (C.s.setVm vm0) C.m C.a C.bl C.mt C.c U ls ce sl)
    (hF : Fr f' Lc) (hE' : Ext Z.heap U.heap) (hI' : IB Z U.vm To') (l1 : ls = locs ++ Lc) (c1 : ce = k + Ry.cells) (s1 : sl = n + Ry.slots) (hb : b ≤ f') : Pos C Z R false b To' Li U.heap (k + Ry.cells) (n + Ry.slots) U vm0 (locs ++ Lc) := by
  obtain ⟨X, hZ, eT, hS, hI, hw, N, hz, hE, hq, hL⟩ := P
  subst l1 c1 s1
  have e0 := hw rfl
  subst e0
  exact ⟨X', hZ, rfl, (State.WarmedH.refl C.s).since _, ib_same hI' X'.warmed.interned_eq.symm, fun _ => rfl, N.app (fr_low hF hb), hz, hE', X'.same.2.1, hL⟩
theorem Pos.afterS {T : State} {vm0 : Vm} {locs : List Loc} {U : State} {ls : List Loc} {ce sl : Nat} {Lc : List Loc} (P : Pos C Z R true b Ts Li h k n T vm0 locs) (X' : Stand C.p C.l C.e R ((C.s.setVm vm0).setVm U.vm) C.m C.a C.bl C.mt C.c U ls ce sl)
    (hS' : (C.s.setVm vm0).Since U.vm U.heap.size) (hg : T.heap.size ≤ U.heap.size) (hF : Fr f' Lc) (hE' : Ext Z.heap U.heap) (hI' : IB Z U.vm To') (l1 : ls = locs ++ Lc) (c1 : ce = k + Ry.cells) (s1 : sl = n + Ry.slots) (hb : b ≤ f') : Pos C Z R true b To' Li U.heap (k + Ry.cells) (n + Ry.slots) U U.vm (locs ++ Lc) := by
  obtain ⟨X, hZ, eT, hS, hI, hw, N, hz, hE, hq, hL⟩ := P
  subst l1 c1 s1
  exact ⟨X', State.Warmed39.trans (t := C.s.setVm vm0) hZ hS'.1, rfl, hS.trans hS' (by rw [← eT]; exact hg), hI', fun e => (by cases e), N.app (fr_low hF hb), hz, hE', Nat.le_trans hq (by rw [← eT]; exact hg), fun x hx => (hL x hx).stays hS'.1⟩
end Contract
theorem r_static (H : Stn C Z own by_ mL rt nm q) (pc' : Nat) {idx : Nat} {y : MethodName} {yb : ByteArray} {ymL : Nat} {yrt : Option FieldType} {Ry : Room} {To' : List String} {f' : Nat} {Qy : Option Value → Heap → Prop}  {argsL rest : List Value} {W : Nat} (hd : decode by_ pc = .ok (.invokestatic idx, 3)) (w1 : (Cond.methodLink own idx y).before a0 Z = true) (w2 : (Cond.static y).before a0 Z = true) (w3 : (Cond.initialized y.cls).before a0 Z = true) (w4 : (Cond.code y yb ymL yrt).before a0 Z = true) (hy : y.cls ≠ "java/lang/invoke/MethodHandle" ∧ y.cls ≠ "java/lang/invoke/VarHandle") (hlen : ∀ sig, parseMethodDescriptor y.desc = some sig → argsL.length = sig.parameters.length) (hc : Con w [] Z y yb ymL yrt Ry Ts To' f' argsL.toArray h Qy) (hs : S = argsL.reverse ++ rest) (hW : (rest.map fun v => v.category).sum ≤ W) (hL : L.size = mL) (hf : Ry.frames + 1 ≤ R.frames) (hl : W + (ymL + 11) + Ry.locals ≤ R.locals) (hk : k + Ry.cells ≤ R.cells) (hn : n + Ry.slots ≤ R.slots) (hb : b ≤ f') (hp : pc' = pc + 3) (kk : ∀ v h', Qy v h' → Run C Z R w To f Q b To' Li h' (k + Ry.cells) (n + Ry.slots) pc' L (v.toList ++ rest)) : Run C Z R w To f Q b Ts Li h k n pc L S := by
  subst hp hs
  intro T vm0 locs P
  cases w with
  | false =>
    obtain ⟨v, vm₁, ⟨U, ls, ce, sl⟩, -, X', ⟨Lc, ⟨hQ, hF, hE', hI'⟩, l1, c1, s1⟩, st⟩ := Jvm.LawKit.callS P.1 H.1 (P.cl H) (mvT (s := C.s.setVm vm0) P.2.1 w1) (mvT (s := C.s.setVm vm0) P.2.1 w2) (mvT (s := C.s.setVm vm0) P.2.1 w3) (mvT (s := C.s.setVm vm0) P.2.1 w4) hy (hc.back P.2.1 P.2.2.2.2.1 P.2.2.2.2.2.2.2.2.1 w4 w3 hf hl) (g := mkF C.m pc L (argsL.reverse ++ rest)) rfl (by rw [H.2.2.1]; exact hL) hlen rfl (by show 2 * 0 + _ ≤ _; omega) (H.dec hd) (fun _ _ => ⟨rfl, P.2.2.1, hk, hn⟩)
    obtain ⟨s₂, o, h1, r⟩ := kk v U.heap hQ U vm0 _ (P.afterN X' hF hE' hI' l1 c1 s1 hb)
    exact ⟨s₂, o, st _ h1, r⟩
  | true =>
    obtain ⟨v, vm₁, ⟨U, ls, ce, sl⟩, -, X', hS', hg, ⟨Lc, ⟨hQ, hF, hE', hI'⟩, l1, c1, s1⟩, st⟩ := callSS P.1 H.1 (P.cl H) (mvT (s := C.s.setVm vm0) P.2.1 w1) (mvT (s := C.s.setVm vm0) P.2.1 w2) (mvT (s := C.s.setVm vm0) P.2.1 w3) (mvT (s := C.s.setVm vm0) P.2.1 w4) hy (hc.backS P.2.1 P.2.2.2.2.1 P.2.2.2.2.2.2.2.2.1 w4 w3 hf hl) (g := mkF C.m pc L (argsL.reverse ++ rest)) rfl (by rw [H.2.2.1]; exact hL) hlen rfl (by show 2 * 0 + _ ≤ _; omega) (H.dec hd) (fun _ _ => ⟨rfl, P.2.2.1, hk, hn⟩)
    obtain ⟨s₂, o, h1, r⟩ := kk v U.heap hQ U U.vm _ (P.afterS X' hS' hg hF hE' hI' l1 c1 s1 hb)
    exact ⟨s₂, o, st.trans h1, r⟩
theorem r_special (H : Stn C Z own by_ mL rt nm q) (pc' : Nat) {idx : Nat} {y : MethodName} {yb : ByteArray} {ymL : Nat} {Ry : Room} {To' : List String} {f' : Nat} {Qy : Option Value → Heap → Prop} {a : Addr} {argsL rest : List Value} {W : Nat} (hd : decode by_ pc = .ok (.invokespecial idx, 3)) (w1 : (Cond.methodLink own idx y).before a0 Z = true) (w2 : (Cond.instanceMethod y).before a0 Z = true) (w3 : (Cond.initialized y.cls).before a0 Z = true) (w4 : (Cond.code y yb ymL none).before a0 Z = true) (hy : y.cls ≠ "java/lang/invoke/MethodHandle" ∧ y.cls ≠ "java/lang/invoke/VarHandle") (hy1 : y.name = "<init>") (hlen : ∀ sig, parseMethodDescriptor y.desc = some sig → argsL.length = sig.parameters.length) (hc : Con w [] Z y yb ymL none Ry Ts To' f' (.ref a :: argsL).toArray h Qy) (hs : S = argsL.reverse ++ .ref a :: rest) (hW : (rest.map fun v => v.category).sum ≤ W) (hL : L.size = mL) (hf : Ry.frames + 1 ≤ R.frames) (hl : W + (ymL + 11) + Ry.locals ≤ R.locals) (hk : k + Ry.cells ≤ R.cells) (hn : n + Ry.slots ≤ R.slots) (hb : b ≤ f') (hp : pc' = pc + 3) (kk : ∀ v h', Qy v h' → Run C Z R w To f Q b To' Li h' (k + Ry.cells) (n + Ry.slots) pc' L (v.toList ++ rest)) : Run C Z R w To f Q b Ts Li h k n pc L S := by
  subst hp hs
  intro T vm0 locs P
  cases w with
  | false =>
    obtain ⟨v, vm₁, ⟨U, ls, ce, sl⟩, -, X', ⟨Lc, ⟨hQ, hF, hE', hI'⟩, l1, c1, s1⟩, st⟩ := P.1.specialBack H.1 hy1 (P.cl H) (mvT (s := C.s.setVm vm0) P.2.1 w1) (mvT (s := C.s.setVm vm0) P.2.1 w2) (mvT (s := C.s.setVm vm0) P.2.1 w4) hy (hc.back P.2.1 P.2.2.2.2.1 P.2.2.2.2.2.2.2.2.1 w4 w3 hf hl) (g := mkF C.m pc L (argsL.reverse ++ .ref a :: rest)) rfl (by rw [H.2.2.1]; exact hL) (Steps.refl _) (a := a) hlen rfl (by show 2 * 0 + _ ≤ _; omega) (H.dec hd) (fun _ _ => ⟨rfl, P.2.2.1, hk, hn⟩)
    obtain ⟨s₂, o, h1, r⟩ := kk v U.heap hQ U vm0 _ (P.afterN X' hF hE' hI' l1 c1 s1 hb)
    exact ⟨s₂, o, st.trans h1, r⟩
  | true =>
    obtain ⟨v, vm₁, ⟨U, ls, ce, sl⟩, -, X', hS', hg, ⟨Lc, ⟨hQ, hF, hE', hI'⟩, l1, c1, s1⟩, st⟩ := P.1.specialBackS H.1 hy1 (P.cl H) (mvT (s := C.s.setVm vm0) P.2.1 w1) (mvT (s := C.s.setVm vm0) P.2.1 w2) (mvT (s := C.s.setVm vm0) P.2.1 w4) hy (hc.backS P.2.1 P.2.2.2.2.1 P.2.2.2.2.2.2.2.2.1 w4 w3 hf hl) (g := mkF C.m pc L (argsL.reverse ++ .ref a :: rest)) rfl (by rw [H.2.2.1]; exact hL) (Steps.refl _) (a := a) hlen rfl (by show 2 * 0 + _ ≤ _; omega) (H.dec hd) (fun _ _ => ⟨rfl, P.2.2.1, hk, hn⟩)
    obtain ⟨s₂, o, h1, r⟩ := kk v U.heap hQ U U.vm _ (P.afterS X' hS' hg hF hE' hI' l1 c1 s1 hb)
    exact ⟨s₂, o, st.trans h1, r⟩
theorem r_virtual (H : Stn C Z own by_ mL rt nm q) (pc' : Nat) {idx : Nat} {y : MethodName} {yb : ByteArray} {ymL : Nat} {yrt : Option FieldType} {Ry : Room} {To' : List String} {f' : Nat} {Qy : Option Value → Heap → Prop} {z : MethodName} {CC : String} {a : Addr} {argsL rest : List Value} {W : Nat} (hd : decode by_ pc = .ok (.invokevirtual idx, 3)) (w1 : (Cond.methodLink own idx y).before a0 Z = true) (wd : (Cond.declares y).before a0 Z = true) (hnf : ∀ vm0, Z.Warmed39 vm0 → NotFace (C.s.setVm vm0) y) (w2 : (Cond.selects CC y z).before a0 Z = true) (w5 : (Cond.instanceMethod z).before a0 Z = true) (w3 : (Cond.initialized z.cls).before a0 Z = true) (w4 : (Cond.code z yb ymL yrt).before a0 Z = true) (hy : y.cls ≠ "java/lang/invoke/MethodHandle" ∧ y.cls ≠ "java/lang/invoke/VarHandle") (E : Exa Z h a CC) (hlen : ∀ sig, parseMethodDescriptor y.desc = some sig → argsL.length = sig.parameters.length) (hc : Con w [] Z z yb ymL yrt Ry Ts To' f' (.ref a :: argsL).toArray h Qy) (hs : S = argsL.reverse ++ .ref a :: rest) (hW : (rest.map fun v => v.category).sum ≤ W) (hL : L.size = mL) (hf : Ry.frames + 1 ≤ R.frames) (hl : W + (ymL + 11) + Ry.locals ≤ R.locals) (hk : k + Ry.cells ≤ R.cells) (hn : n + Ry.slots ≤ R.slots) (hb : b ≤ f') (hp : pc' = pc + 3) (kk : ∀ v h', Qy v h' → Run C Z R w To f Q b To' Li h' (k + Ry.cells) (n + Ry.slots) pc' L (v.toList ++ rest)) : Run C Z R w To f Q b Ts Li h k n pc L S := by
  subst hp hs
  intro T vm0 locs P
  obtain ⟨cB, kB, q1, q2, q3⟩ := isOf (T := T) (s := C.s.setVm vm0) P.2.1 P.2.2.1 E
  cases w with
  | false =>
    obtain ⟨v, vm₁, ⟨U, ls, ce, sl⟩, -, X', ⟨Lc, ⟨hQ, hF, hE', hI'⟩, l1, c1, s1⟩, st⟩ := P.1.virtualBack H.1 (P.cl H) (mvT (s := C.s.setVm vm0) P.2.1 w1) (mvT (s := C.s.setVm vm0) P.2.1 wd) (hnf vm0 P.2.1) (mvT (s := C.s.setVm vm0) P.2.1 w2) (mvT (s := C.s.setVm vm0) P.2.1 w5) hy (hc.back P.2.1 P.2.2.2.2.1 P.2.2.2.2.2.2.2.2.1 w4 w3 hf hl) q1 q3 (g := mkF C.m pc L (argsL.reverse ++ .ref a :: rest)) rfl (by rw [H.2.2.1]; exact hL) (Steps.refl _) hlen rfl (by show 2 * 0 + _ ≤ _; omega) (H.dec hd) (fun _ _ => ⟨rfl, P.2.2.1, hk, hn⟩)
    obtain ⟨s₂, o, h1, r⟩ := kk v U.heap hQ U vm0 _ (P.afterN X' hF hE' hI' l1 c1 s1 hb)
    exact ⟨s₂, o, st.trans h1, r⟩
  | true =>
    obtain ⟨v, vm₁, ⟨U, ls, ce, sl⟩, -, X', hS', hg, ⟨Lc, ⟨hQ, hF, hE', hI'⟩, l1, c1, s1⟩, st⟩ := P.1.virtualBackS H.1 (P.cl H) (mvT (s := C.s.setVm vm0) P.2.1 w1) (mvT (s := C.s.setVm vm0) P.2.1 wd) (hnf vm0 P.2.1) (mvT (s := C.s.setVm vm0) P.2.1 w2) (mvT (s := C.s.setVm vm0) P.2.1 w5) hy (hc.backS P.2.1 P.2.2.2.2.1 P.2.2.2.2.2.2.2.2.1 w4 w3 hf hl) q1 q3 (g := mkF C.m pc L (argsL.reverse ++ .ref a :: rest)) rfl (by rw [H.2.2.1]; exact hL) (Steps.refl _) hlen rfl (by show 2 * 0 + _ ≤ _; omega) (H.dec hd) (fun _ _ => ⟨rfl, P.2.2.1, hk, hn⟩)
    obtain ⟨s₂, o, h1, r⟩ := kk v U.heap hQ U U.vm _ (P.afterS X' hS' hg hF hE' hI' l1 c1 s1 hb)
    exact ⟨s₂, o, st.trans h1, r⟩
theorem nf_sel {vmS : State} {CC : String} {y : MethodName} (w2 : (Cond.selects CC y y).before a0 Z = true) : ∀ vm0, Z.Warmed39 vm0 → NotFace (vmS.setVm vm0) y := fun vm0 hZ => notFace_of_selects (args := #[]) (mvT (s := vmS.setVm vm0) hZ w2)
theorem nf_sup {vmS : State} {y : MethodName} {SC : String} (w2 : (Cond.superclass y.cls SC).before a0 Z = true) : ∀ vm0, Z.Warmed39 vm0 → NotFace (vmS.setVm vm0) y := fun vm0 hZ => nf_super (args := #[]) (mvT (s := vmS.setVm vm0) hZ w2)
theorem sel_self {s : State} {args : Array Value} {CS : String} {y : MethodName} (w5 : (Cond.selects CS y y).before args s = true) (hp : s.PrivateAt y) (w2 : (Cond.instanceMethod y).before args s = true) (hy : y.cls ≠ "java/lang/invoke/MethodHandle" ∧ y.cls ≠ "java/lang/invoke/VarHandle") : (Cond.selects y.cls y y).before args s = true := by
  obtain ⟨c, r, m, -, -, hn, -, kk, hk, hni⟩ := Cond.selects_spec w5
  exact selects_self_of_private (findClass_of_methodNamed hn) hk hni hp w2 hy
theorem r_private (H : Stn C Z own by_ mL rt nm q) (pc' : Nat) {idx : Nat} {y : MethodName} {yb : ByteArray} {ymL : Nat} {yrt : Option FieldType} {Ry : Room} {To' : List String} {f' : Nat} {Qy : Option Value → Heap → Prop} {CC CS : String} {a : Addr} {argsL rest : List Value} {W : Nat} (hd : decode by_ pc = .ok (.invokevirtual idx, 3)) (w1 : (Cond.methodLink own idx y).before a0 Z = true) (w2 : (Cond.instanceMethod y).before a0 Z = true) (w5 : (Cond.selects CS y y).before a0 Z = true) (w6 : (Cond.privateMethod y).before a0 Z = true) (w3 : (Cond.initialized y.cls).before a0 Z = true) (w4 : (Cond.code y yb ymL yrt).before a0 Z = true) (hy : y.cls ≠ "java/lang/invoke/MethodHandle" ∧ y.cls ≠ "java/lang/invoke/VarHandle") (E : Exa Z h a CC) (hlen : ∀ sig, parseMethodDescriptor y.desc = some sig → argsL.length = sig.parameters.length) (hc : Con w [] Z y yb ymL yrt Ry Ts To' f' (.ref a :: argsL).toArray h Qy) (hs : S = argsL.reverse ++ .ref a :: rest) (hW : (rest.map fun v => v.category).sum ≤ W) (hL : L.size = mL) (hf : Ry.frames + 1 ≤ R.frames) (hl : W + (ymL + 11) + Ry.locals ≤ R.locals) (hk : k + Ry.cells ≤ R.cells) (hn : n + Ry.slots ≤ R.slots) (hb : b ≤ f') (hp : pc' = pc + 3) (kk : ∀ v h', Qy v h' → Run C Z R w To f Q b To' Li h' (k + Ry.cells) (n + Ry.slots) pc' L (v.toList ++ rest)) : Run C Z R w To f Q b Ts Li h k n pc L S := by
  subst hp hs
  intro T vm0 locs P
  obtain ⟨cq, q1, q2⟩ := E.cell
  cases w with
  | false =>
    obtain ⟨v, vm₁, ⟨U, ls, ce, sl⟩, -, X', ⟨Lc, ⟨hQ, hF, hE', hI'⟩, l1, c1, s1⟩, st⟩ := P.1.privateBack H.1 (P.cl H) (mvT (s := C.s.setVm vm0) P.2.1 w1) (mvT (s := C.s.setVm vm0) P.2.1 w2) (sel_self (mvT (s := C.s.setVm vm0) P.2.1 w5) (Cond.privateMethod_at (mvP (s := C.s.setVm vm0) P.2.1 w6 (args := #[]))) (mvT (s := C.s.setVm vm0) P.2.1 w2) hy) (Cond.privateMethod_at (mvP (s := C.s.setVm vm0) P.2.1 w6 (args := #[]))) (mvT (s := C.s.setVm vm0) P.2.1 w4) hy (hc.back P.2.1 P.2.2.2.2.1 P.2.2.2.2.2.2.2.2.1 w4 w3 hf hl) (g := mkF C.m pc L (argsL.reverse ++ .ref a :: rest)) rfl (by rw [H.2.2.1]; exact hL) (Steps.refl _) (a := a) (by rw [P.2.2.1]; exact q1) q2 hlen rfl (by show 2 * 0 + _ ≤ _; omega) (H.dec hd) (fun _ _ => ⟨rfl, P.2.2.1, hk, hn⟩)
    obtain ⟨s₂, o, h1, r⟩ := kk v U.heap hQ U vm0 _ (P.afterN X' hF hE' hI' l1 c1 s1 hb)
    exact ⟨s₂, o, st.trans h1, r⟩
  | true =>
    obtain ⟨v, vm₁, ⟨U, ls, ce, sl⟩, -, X', hS', hg, ⟨Lc, ⟨hQ, hF, hE', hI'⟩, l1, c1, s1⟩, st⟩ := P.1.privateBackS H.1 (P.cl H) (mvT (s := C.s.setVm vm0) P.2.1 w1) (mvT (s := C.s.setVm vm0) P.2.1 w2) (sel_self (mvT (s := C.s.setVm vm0) P.2.1 w5) (Cond.privateMethod_at (mvP (s := C.s.setVm vm0) P.2.1 w6 (args := #[]))) (mvT (s := C.s.setVm vm0) P.2.1 w2) hy) (Cond.privateMethod_at (mvP (s := C.s.setVm vm0) P.2.1 w6 (args := #[]))) (mvT (s := C.s.setVm vm0) P.2.1 w4) hy (hc.backS P.2.1 P.2.2.2.2.1 P.2.2.2.2.2.2.2.2.1 w4 w3 hf hl) (g := mkF C.m pc L (argsL.reverse ++ .ref a :: rest)) rfl (by rw [H.2.2.1]; exact hL) (Steps.refl _) (a := a) (by rw [P.2.2.1]; exact q1) q2 hlen rfl (by show 2 * 0 + _ ≤ _; omega) (H.dec hd) (fun _ _ => ⟨rfl, P.2.2.1, hk, hn⟩)
    obtain ⟨s₂, o, h1, r⟩ := kk v U.heap hQ U U.vm _ (P.afterS X' hS' hg hF hE' hI' l1 c1 s1 hb)
    exact ⟨s₂, o, st.trans h1, r⟩
theorem r_super (H : Stn C Z own by_ mL rt nm q) (pc' : Nat) {idx : Nat} {y : MethodName} {yb : ByteArray} {ymL : Nat} {yrt : Option FieldType} {Ry : Room} {To' : List String} {f' : Nat} {Qy : Option Value → Heap → Prop} {K : String} {a : Addr} {argsL rest : List Value} {W : Nat} (hd : decode by_ pc = .ok (.invokespecial idx, 3)) (w1 : (Cond.methodLink own idx y).before a0 Z = true) (w2 : (Cond.sameMethod y.cls y.cls y.name y.desc).before a0 Z = true) (w5 : (Cond.instanceMethod y).before a0 Z = true) (w6 : (Cond.superclass own y.cls).before a0 Z = true) (w3 : (Cond.initialized y.cls).before a0 Z = true) (w4 : (Cond.code y yb ymL yrt).before a0 Z = true) (hyn : y.name ≠ "<init>") (E : Ins Z h a K true) (hlen : ∀ sig, parseMethodDescriptor y.desc = some sig → argsL.length = sig.parameters.length) (hc : Con w [] Z y yb ymL yrt Ry Ts To' f' (.ref a :: argsL).toArray h Qy) (hs : S = argsL.reverse ++ .ref a :: rest) (hW : (rest.map fun v => v.category).sum ≤ W) (hL : L.size = mL) (hf : Ry.frames + 1 ≤ R.frames) (hl : W + (ymL + 11) + Ry.locals ≤ R.locals) (hk : k + Ry.cells ≤ R.cells) (hn : n + Ry.slots ≤ R.slots) (hb : b ≤ f') (hp : pc' = pc + 3) (kk : ∀ v h', Qy v h' → Run C Z R w To f Q b To' Li h' (k + Ry.cells) (n + Ry.slots) pc' L (v.toList ++ rest)) : Run C Z R w To f Q b Ts Li h k n pc L S := by
  subst hp hs
  intro T vm0 locs P
  cases w with
  | false =>
    obtain ⟨v, vm₁, ⟨U, ls, ce, sl⟩, -, X', ⟨Lc, ⟨hQ, hF, hE', hI'⟩, l1, c1, s1⟩, st⟩ := superBack P.1 H.1 P.2.1 (P.cl H) w1 w2 w5 w6 hyn (hc.back P.2.1 P.2.2.2.2.1 P.2.2.2.2.2.2.2.2.1 w4 w3 hf hl) P.2.2.1 E (g := mkF C.m pc L (argsL.reverse ++ .ref a :: rest)) rfl (by rw [H.2.2.1]; exact hL) w4 hlen rfl (by show 2 * 0 + _ ≤ _; omega) (H.dec hd) (fun _ _ => ⟨rfl, P.2.2.1, hk, hn⟩)
    obtain ⟨s₂, o, h1, r⟩ := kk v U.heap hQ U vm0 _ (P.afterN X' hF hE' hI' l1 c1 s1 hb)
    exact ⟨s₂, o, st.trans h1, r⟩
  | true =>
    obtain ⟨v, vm₁, ⟨U, ls, ce, sl⟩, -, X', hS', hg, ⟨Lc, ⟨hQ, hF, hE', hI'⟩, l1, c1, s1⟩, st⟩ := superBackS P.1 H.1 P.2.1 (P.cl H) w1 w2 w5 w6 hyn (hc.backS P.2.1 P.2.2.2.2.1 P.2.2.2.2.2.2.2.2.1 w4 w3 hf hl) P.2.2.1 E (g := mkF C.m pc L (argsL.reverse ++ .ref a :: rest)) rfl (by rw [H.2.2.1]; exact hL) w4 hlen rfl (by show 2 * 0 + _ ≤ _; omega) (H.dec hd) (fun _ _ => ⟨rfl, P.2.2.1, hk, hn⟩)
    obtain ⟨s₂, o, h1, r⟩ := kk v U.heap hQ U U.vm _ (P.afterS X' hS' hg hF hE' hI' l1 c1 s1 hb)
    exact ⟨s₂, o, st.trans h1, r⟩
theorem r_ldcS (H : Stn C Z own by_ mL rt nm b) (pc' : Nat) {idx : Nat} {text : String} {vs : List Value} {z : Int32} (ns : Nat) (hd : decode by_ pc = .ok (.ldc idx, 2)) (w1 : (Cond.stringLink own idx text).before a0 Z = true) (wS : ∀ a ∈ Bundle.stringAtoms, a.before a0 Z = true) (hnot : text ∉ Ts) (hh : Jvm.Lit.constHeld Z own idx) (hcw : Jvm.Lit.compactW.before a0 Z = true)
    (ht : (∀ c ∈ text.toList, c.toNat < 256) ∧ text.toList.map (fun c => Value.int (Jvm.Lit.byteI c.toNat.toUInt16)) = vs) (hz : ¬ z < 0) (hl : z.toNatClampNeg = vs.length) (hns : 4 * text.toList.length ≤ ns) (hbig : ns ≤ 536870912) (hc : k + 2 ≤ R.cells) (hsl : n + (ns + 4) ≤ R.slots) (hp : pc' = pc + 2)
    (kk : ∀ h' a v kc, Keep h h' [] → Exa Z h' a "java/lang/String" → Fld Z h' a "java/lang/String" "coder" "B" (.int 0) → Fld Z h' a "java/lang/String" "value" "[B" (.ref v) → Ar Z h' v kc .byte vs → ((a < b ∧ v < b) ∨ (h.size ≤ a ∧ h.size ≤ v)) → Run C Z R true To f Q b (text :: Ts) [(own, idx, a)] h' (k + 2) (n + (ns + 4)) pc' L (.ref a :: S)) : Run C Z R true To f Q b Ts Li h k n pc L S := by
  subst hp
  intro T vm0 locs P
  obtain ⟨X, hZ, eT, hS, hI, hw, N, hzz, hE, hq, hL⟩ := P
  obtain ⟨a, T', h', k1, v, kc, X', e', E, hS', hk1, hW', ho', x1, x2, x3, x4, x5, x6, hI', hLit, hwh, st⟩ := ldcSVd X H.1 hZ (H.cl hS) w1 wS eT hS (Nat.le_refl _) (by rw [H.2.2.2.2.2.2.1]; exact N) (fun bb cl r => H.2.2.2.2.2.2.2.1.2 bb cl r) hI hnot hh hcw ht hz hl (g := mkF C.m pc L S) rfl (H.dec hd) hns hbig hc hsl
  subst e'
  obtain ⟨s₂, o, h1, r⟩ := kk T'.heap a v kc (Keep.of_ext E) x1 x2 x3 (Ar.of_arv x4 hl) (by rw [← H.2.2.2.2.2.2.1]; exact hwh) T' T'.vm locs ⟨X', hW', rfl, since_same hS' hk1, hI', fun e => (by cases e), N, hzz, ⟨Nat.le_trans hE.1 E.1, fun x c r => E.2 x c (hE.2 x c r)⟩, Nat.le_trans hq E.1, fun x hx => (by cases List.mem_singleton.mp hx; exact hLit)⟩
  exact ⟨s₂, o, st _ h1, r⟩
theorem r_ldcA (H : Stn C Z own by_ mL rt nm q) (pc' : Nat) {idx : Nat} {text : String} {a : Addr} (hd : decode by_ pc = .ok (.ldc idx, 2)) (w1 : (Cond.stringLink own idx text).before a0 Z = true) (hm : (own, idx, a) ∈ Li) (hp : pc' = pc + 2)
    (kk : Run C Z R w To f Q b Ts Li h k n pc' L (.ref a :: S)) : Run C Z R w To f Q b Ts Li h k n pc L S := by
  subst hp
  exact kk.hold fun T vm0 locs P => ⟨T, P.1, P.2.2.1, ldcAgain P.1 H.1 P.2.1 (P.cl H) w1 (P.2.2.2.2.2.2.2.2.2.2 _ hm) (g := mkF C.m pc L S) rfl (H.dec hd)⟩

theorem r_castN (H : Stn C Z own by_ mL rt nm q) (pc' : Nat) {idx : Nat} (hd : decode by_ pc = .ok (.checkcast idx, 3)) (hp : pc' = pc + 3)
    (kk : Run C Z R w To f Q b Ts Li h k n pc' L (.null :: S)) : Run C Z R w To f Q b Ts Li h k n pc L (.null :: S) := by
  subst hp
  exact kk.one fun T vm0 locs t X kt => X.checkcastNull H.1 (g := mkF C.m pc L (.null :: S)) rfl rfl (H.dec hd) _ kt
theorem r_ldcF (H : Stn C Z own by_ mL rt nm q) (pc' : Nat) {idx : Nat} {v : UInt32} (hd : decode by_ pc = .ok (.ldc idx, 2)) (w1 : (Cond.constantFloat own idx v).before a0 Z = true) (hp : pc' = pc + 2)
    (kk : Run C Z R w To f Q b Ts Li h k n pc' L (.float v :: S)) : Run C Z R w To f Q b Ts Li h k n pc L S := by
  subst hp
  exact kk.hold fun T vm0 locs P => ⟨T, P.1, P.2.2.1, P.1.ldcFloatC H.1 (P.cl H) (mvT (s := C.s.setVm vm0) P.2.1 w1) (g := mkF C.m pc L S) rfl (H.dec hd)⟩
theorem Run.join {P : Int32 → Prop} {pcB : Nat} {LB : Int32 → Array Slot} {SB : Int32 → List Value} (k2 : (∀ z, P z → Run C Z R w To f Q b Ts Li h k n pcB (LB z) (SB z)) → Run C Z R w To f Q b Ts Li h k n pc L S)
    (k1 : ∀ z, P z → Run C Z R w To f Q b Ts Li h k n pcB (LB z) (SB z)) : Run C Z R w To f Q b Ts Li h k n pc L S := k2 k1
end Walk
theorem sto_ar {Z : State} {h : Heap} {a y : Addr} {kc : ClassId} {ty : FieldType} {vs : List Value} {CC : String} (F : Ar Z h a kc ty vs) (O : Ovr Z kc CC) (I : Ins Z h y CC true) : Sto Z h a (.ref y) := by
  obtain ⟨c, A, h1, -⟩ := F
  exact Sto.ofV A h1 O I
theorem ushr_eq (x y : Int32) (k : Nat) (hk : y.toBitVec.toNat % 32 = k) (h0 : 0 < k) : (ush32 x y).toInt = (x.toInt % 4294967296) / (2 ^ k : Nat) := c_iushr x y k hk h0
theorem i2c_id {x : Int32} (h : 0 ≤ x.toInt ∧ x.toInt ≤ 65535) : x.toUInt32.toUInt16.toUInt32.toInt32 = x := by
  apply Int32.toInt_inj.mp; have := c_i2c x; omega
theorem i2b_id {x : Int32} (h : -128 ≤ x.toInt ∧ x.toInt ≤ 127) : x.toInt8.toInt32 = x := by
  apply Int32.toInt_inj.mp; have := c_i2b x; omega
theorem i2s_id {x : Int32} (h : -32768 ≤ x.toInt ∧ x.toInt ≤ 32767) : x.toInt16.toInt32 = x := by
  apply Int32.toInt_inj.mp; have := c_i2s x; omega
theorem and1_id {x : Int32} (h : 0 ≤ x.toInt ∧ x.toInt ≤ 1) : x &&& 1 = x := by
  apply Int32.toInt_inj.mp; have h1 := c_mask x 1 1 (by decide) (by decide); rw [h1]; omega
theorem nar_char_id {x : Int32} (h : 0 ≤ x.toInt ∧ x.toInt ≤ 65535) : nar .char x = x := i2c_id h
theorem nar_byte_id {x : Int32} (h : -128 ≤ x.toInt ∧ x.toInt ≤ 127) : nar .byte x = x := i2b_id h
theorem nar_short_id {x : Int32} (h : -32768 ≤ x.toInt ∧ x.toInt ≤ 32767) : nar .short x = x := i2s_id h
theorem nar_bool_id {x : Int32} (h : 0 ≤ x.toInt ∧ x.toInt ≤ 1) : nar .boolean x = x := and1_id h
theorem narrow_char_id {x : Int32} (h : 0 ≤ x.toInt ∧ x.toInt ≤ 65535) : narrow .char (.int x) = .int x := congrArg Value.int (i2c_id h)
theorem narrow_byte_id {x : Int32} (h : -128 ≤ x.toInt ∧ x.toInt ≤ 127) : narrow .byte (.int x) = .int x := congrArg Value.int (i2b_id h)
theorem narrow_short_id {x : Int32} (h : -32768 ≤ x.toInt ∧ x.toInt ≤ 32767) : narrow .short (.int x) = .int x := congrArg Value.int (i2s_id h)
theorem narrow_bool_id {x : Int32} (h : 0 ≤ x.toInt ∧ x.toInt ≤ 1) : narrow .boolean (.int x) = .int x := congrArg Value.int (and1_id h)
theorem fits_char_id {x : Int32} (h : 0 ≤ x.toInt ∧ x.toInt ≤ 65535) : fits .char (.int x) = true := by have := fits_nar_char x; rwa [nar_char_id h] at this
theorem fits_byte_id {x : Int32} (h : -128 ≤ x.toInt ∧ x.toInt ≤ 127) : fits .byte (.int x) = true := by have := fits_nar_byte x; rwa [i2b_id h] at this
theorem fits_short_id {x : Int32} (h : -32768 ≤ x.toInt ∧ x.toInt ≤ 32767) : fits .short (.int x) = true := by have := fits_nar_short x; rwa [nar_short_id h] at this
theorem fits_bool_id {x : Int32} (h : 0 ≤ x.toInt ∧ x.toInt ≤ 1) : fits .boolean (.int x) = true := by have := fits_nar_bool x; rwa [nar_bool_id h] at this
theorem ne_ar {Z : State} {h : Heap} {a0 : Array Value} {a b : Addr} {CC : String} {k : Nat} {kc : ClassId} {ty : FieldType} {vs : List Value} (E : Exa Z h a CC) (wi : (Cond.instantiable CC k).before a0 Z = true) (F : Ar Z h b kc ty vs) : a ≠ b := by
  obtain ⟨c, A, -⟩ := F; exact ne_arr E wi A
theorem lit_ne {a v u b n : Nat} (D : (a < b ∧ v < b) ∨ (n ≤ a ∧ n ≤ v)) (h1 : b ≤ u) (h2 : u < n) : u ≠ a ∧ u ≠ v := by omega
theorem len32 {n : Nat} (h : n < 2 ^ 31) : n.toInt32.toNatClampNeg = n ∧ ¬ n.toInt32 < 0 := by
  have e := len_toInt h
  refine ⟨by simp only [Int32.toNatClampNeg, e]; rfl, ?_⟩
  rw [Int32.lt_iff_toInt_lt, e]; show ¬ (n : Int) < 0; omega
theorem r_copy {C : Cx} {Z : State} {a0 : Array Value} {own : String} {by_ : ByteArray} {mL : Nat} {rt : Option FieldType} {nm : String} {q : Nat} {R : Room} {w : Bool} {To : List String} {f : Nat} {Q : Option Value → Heap → Prop} {b : Nat} {Ts : List String} {Li : List (String × Nat × Addr)} {h : Heap} {k n pc : Nat} {L : Array Slot} {S : List Value}
    (H : Stn C Z own by_ mL rt nm q) (pc' : Nat) {idx W : Nat} {s d : Addr} {kc kd : ClassId} {ty : FieldType} {vs vd : List Value} {sp dp nn : Int32} (hd : decode by_ pc = .ok (.invokestatic idx, 3)) (w1 : (Cond.methodLink own idx Jvm.Stand.acN).before a0 Z = true) (w2 : (Cond.native Jvm.Stand.acN).before a0 Z = true) (w3 : (Cond.static Jvm.Stand.acN).before a0 Z = true) (w4 : (Cond.initialized "java/lang/System").before a0 Z = true)
    (A : Ar Z h s kc ty vs) (B : Ar Z h d kd ty vd) (hty : refKind ty = false) (h1 : ¬ sp < 0) (h2 : ¬ dp < 0) (h3 : ¬ nn < 0) (h4 : sp.toNatClampNeg + nn.toNatClampNeg ≤ vs.length) (h5 : dp.toNatClampNeg + nn.toNatClampNeg ≤ vd.length) (hb : b ≤ d) (hL : L.size = mL) (hf : 1 ≤ R.frames) (hW : (S.map fun v => v.category).sum ≤ W) (hlo : W + (nativeFrameWords "java/lang/System" "arraycopy" 5 + 11) ≤ R.locals) (hp : pc' = pc + 3)
    (kk : ∀ h', Keep h h' [d] → Ar Z h' d kd ty (vd.take dp.toNatClampNeg ++ (List.range nn.toNatClampNeg).map (fun i => vs.getD (sp.toNatClampNeg + i) (.int 0)) ++ vd.drop (dp.toNatClampNeg + nn.toNatClampNeg)) → Run C Z R w To f Q b Ts Li h' k n pc' L S) : Run C Z R w To f Q b Ts Li h k n pc L (.int nn :: .int dp :: .ref d :: .int sp :: .ref s :: S) := by
  subst hp
  intro T vm0 locs P
  have lA : vs.length < 2 ^ 31 := by obtain ⟨c, -, -, -, r, -⟩ := A; exact r
  have lB : vd.length < 2 ^ 31 := by obtain ⟨c, -, -, -, r, -⟩ := B; exact r
  obtain ⟨eA, nA⟩ := len32 lA
  obtain ⟨eB, nB⟩ := len32 lB
  obtain ⟨T', h', L', X', e', N', K, B', st⟩ := cpA P.1 H.1 P.2.1 (P.cl H) w1 w2 w3 w4 P.2.2.1 (A.arv (dv := .int 0) eA nA) (B.arv (dv := .int 0) eB nB) (Or.inl ⟨rfl, hty⟩) h1 h2 h3 (by rw [eA]; exact h4) (by rw [eB]; exact h5) rfl h5 P.2.2.2.2.2.2.1 hb (g := mkF C.m pc L (.int nn :: .int dp :: .ref d :: .int sp :: .ref s :: S)) rfl (by rw [H.2.2.1]; exact hL) rfl (H.dec hd) hf (W := W) (by show 2 * 0 + _ ≤ _; omega) hlo
  obtain ⟨X, hZ, eT, hS, hI, hw, N, hz, hE, hq, hLi⟩ := P
  have B2 := Ar.of_arv B' (by rw [eB]; simp; omega)
  obtain ⟨s₂, o, g1, r⟩ := kk h' K B2 T' vm0 L' ⟨X', hZ, e', since_same hS K.1, hI, hw, N', hz, (Old.keep (n0 := Z.heap.size) ⟨rfl, hE⟩ K (allS (Nat.le_trans hz hb) all0)).2, Nat.le_trans hq K.1, hLi⟩
  exact ⟨s₂, o, st _ g1, r⟩
theorem len0 {s : State} {args : Array Value} {t : Term} {a : Addr} {c : Cell} {ty : FieldType} (ev : t.eval args s none [] s = some (.ref a)) (A : Arr s s.heap a c ty) (hl : (Cond.eq (.length t) (.int 0)).before args s = true) : c.slots.size = 0 := by
  have hlen := Cond.eq_int hl rfl
  obtain ⟨sd, SA, hev, harrAt, -⟩ := Term.length_spec hlen
  cases ev.symm.trans hev
  have e2 := A.fin (Vm.Alike.refl _)
  cases harrAt.symm.trans e2
  have h31 := SBG.length_lt hev harrAt hlen
  have e : (Term.length t).eval args s none [] s = some (.int (Int32.ofNat c.slots.size)) := by simp [Term.eval, hev, harrAt, h31]
  have h2 : Int32.ofNat c.slots.size = 0 := by simpa using Option.some.inj (e.symm.trans hlen)
  have := congrArg Int32.toInt h2
  rw [Int32.toInt_ofNat_small h31] at this
  have e0 : (0 : Int32).toInt = 0 := by decide
  omega
theorem ar_nil {Z : State} {h : Heap} {a : Addr} {c : Cell} {ty : FieldType} (A : Arr Z h a c ty) (h0 : c.slots.size = 0) : Ar Z h a c.cls ty [] := ⟨c, A, rfl, by rw [Array.size_eq_zero_iff.mp h0], by decide, fun v hv => by cases hv⟩
theorem same_self {Z : State} {a0 : Array Value} {y z z' : MethodName} {CS : String} (wd : (Cond.declares y).before a0 Z = true) (ws : (Cond.selects CS z z').before a0 Z = true) (hz : z'.cls = y.cls) (hy : y.cls ≠ "java/lang/invoke/MethodHandle" ∧ y.cls ≠ "java/lang/invoke/VarHandle") : (Cond.sameMethod y.cls y.cls y.name y.desc).before a0 Z = true := by
  obtain ⟨r0, r, hn, hrm, -, -⟩ := Cond.declares_spec wd
  obtain ⟨c, r2, m, -, -, hn2, -, mk, hk, hni⟩ := Cond.selects_spec ws
  have hf := State.methodFound?_of_named hn hy
  have hc := findClass_of_methodNamed hn
  have hc2 := findClass_of_methodNamed hn2
  rw [hz] at hc2
  have e : r0.cls = m.cls := Option.some.inj (hc.symm.trans hc2)
  have hn' : Z.methodNamed? ⟨y.cls, y.name, y.desc⟩ = some r0 := hn
  rw [← e] at hk
  simp [Cond.before, Cond.holds, Cond.value, hc, hf, hn', hk, hni]
theorem nf_by {Z vmS : State} {a0 : Array Value} {CS : String} {y z z' : MethodName} (ws : (Cond.selects CS z z').before a0 Z = true) (hz : z'.cls = y.cls) : ∀ vm0, Z.Warmed39 vm0 → NotFace (vmS.setVm vm0) y := fun vm0 hZ r0 h0 => by
  obtain ⟨c, r2, m, -, -, hn2, -, mk, hk, hni⟩ := Cond.selects_spec (mvT (s := vmS.setVm vm0) (args := #[]) hZ ws)
  have hc := findClass_of_methodNamed h0
  have hc2 := findClass_of_methodNamed hn2
  rw [hz] at hc2
  have e : r0.cls = m.cls := Option.some.inj (hc.symm.trans hc2)
  exact ⟨mk, by rw [e]; exact hk, hni⟩
abbrev cL8 (c : Int32) : Int32 := (c >>> ((0 : Int32) &&& 31)).toInt8.toInt32
abbrev cH8 (c : Int32) : Int32 := (c >>> ((8 : Int32) &&& 31)).toInt8.toInt32
abbrev cB8 (c : Int32) : Int32 := c.toInt8.toInt32
theorem i2b_ne {x v : Int32} (h : 0 ≤ x.toInt ∧ x.toInt ≤ 255) (hv : 0 ≤ v.toInt ∧ v.toInt ≤ 127) (hn : ¬ x = v) : ¬ x.toInt8.toInt32 = v := fun e => hn (by
  apply Int32.toInt_inj.mp; have := c_i2b x; rw [← e] at hv ⊢; omega)
theorem tw0 {Z : State} {a0 : Array Value} (hw : ∀ d ∈ tables_1, d.before a0 Z = true) : ((Jvm.Cond.methodLink "com/example/valuta/valuta/api/TextFieldHostIdPinLaw" (12 : Nat) ({ cls := "java/lang/String", name := "valueOf", desc := "(C)Ljava/lang/String;" } : Jvm.MethodName))).before a0 Z = true := hw _ (List.mem_of_getElem? (i := 0) rfl)
theorem tw1 {Z : State} {a0 : Array Value} (hw : ∀ d ∈ tables_1, d.before a0 Z = true) : ((Jvm.Cond.static ({ cls := "java/lang/String", name := "valueOf", desc := "(C)Ljava/lang/String;" } : Jvm.MethodName))).before a0 Z = true := hw _ (List.mem_of_getElem? (i := 1) rfl)
theorem tw2 {Z : State} {a0 : Array Value} (hw : ∀ d ∈ tables_1, d.before a0 Z = true) : ((Jvm.Cond.initialized "java/lang/String")).before a0 Z = true := hw _ (List.mem_of_getElem? (i := 2) rfl)
theorem tw3 {Z : State} {a0 : Array Value} (hw : ∀ d ∈ tables_1, d.before a0 Z = true) : ((Jvm.Cond.code ({ cls := "java/lang/String", name := "valueOf", desc := "(C)Ljava/lang/String;" } : Jvm.MethodName) jdk_42_method_139_code (1 : Nat) (Option.some (Jvm.ClassFile.FieldType.object "java/lang/String")))).before a0 Z = true := hw _ (List.mem_of_getElem? (i := 3) rfl)
theorem tw4 {Z : State} {a0 : Array Value} (hw : ∀ d ∈ tables_1, d.before a0 Z = true) : ((Jvm.Cond.fieldLink "java/lang/String" (38 : Nat) "java/lang/String" "COMPACT_STRINGS" "Z")).before a0 Z = true := hw _ (List.mem_of_getElem? (i := 4) rfl)
theorem tw5 {Z : State} {a0 : Array Value} (hw : ∀ d ∈ tables_1, d.before a0 Z = true) : ((Jvm.Cond.methodLink "java/lang/String" (1015 : Nat) ({ cls := "java/lang/StringLatin1", name := "canEncode", desc := "(C)Z" } : Jvm.MethodName))).before a0 Z = true := hw _ (List.mem_of_getElem? (i := 5) rfl)
theorem tw6 {Z : State} {a0 : Array Value} (hw : ∀ d ∈ tables_1, d.before a0 Z = true) : ((Jvm.Cond.static ({ cls := "java/lang/StringLatin1", name := "canEncode", desc := "(C)Z" } : Jvm.MethodName))).before a0 Z = true := hw _ (List.mem_of_getElem? (i := 6) rfl)
theorem tw7 {Z : State} {a0 : Array Value} (hw : ∀ d ∈ tables_1, d.before a0 Z = true) : ((Jvm.Cond.initialized "java/lang/StringLatin1")).before a0 Z = true := hw _ (List.mem_of_getElem? (i := 7) rfl)
theorem tw8 {Z : State} {a0 : Array Value} (hw : ∀ d ∈ tables_1, d.before a0 Z = true) : ((Jvm.Cond.code ({ cls := "java/lang/StringLatin1", name := "canEncode", desc := "(C)Z" } : Jvm.MethodName) jdk_43_method_3_code (1 : Nat) (Option.some Jvm.ClassFile.FieldType.boolean))).before a0 Z = true := hw _ (List.mem_of_getElem? (i := 8) rfl)
theorem tw9 {Z : State} {a0 : Array Value} (hw : ∀ d ∈ tables_1, d.before a0 Z = true) : ((Jvm.Cond.classLink "java/lang/String" (10 : Nat) "java/lang/String")).before a0 Z = true := hw _ (List.mem_of_getElem? (i := 9) rfl)
theorem tw10 {Z : State} {a0 : Array Value} (hw : ∀ d ∈ tables_1, d.before a0 Z = true) : ((Jvm.Cond.instantiable "java/lang/String" (4 : Nat))).before a0 Z = true := hw _ (List.mem_of_getElem? (i := 10) rfl)
theorem tw11 {Z : State} {a0 : Array Value} (hw : ∀ d ∈ tables_1, d.before a0 Z = true) : ((Jvm.Cond.methodLink "java/lang/String" (1018 : Nat) ({ cls := "java/lang/StringLatin1", name := "toBytes", desc := "(C)[B" } : Jvm.MethodName))).before a0 Z = true := hw _ (List.mem_of_getElem? (i := 11) rfl)
theorem tw12 {Z : State} {a0 : Array Value} (hw : ∀ d ∈ tables_1, d.before a0 Z = true) : ((Jvm.Cond.static ({ cls := "java/lang/StringLatin1", name := "toBytes", desc := "(C)[B" } : Jvm.MethodName))).before a0 Z = true := hw _ (List.mem_of_getElem? (i := 12) rfl)
theorem tw13 {Z : State} {a0 : Array Value} (hw : ∀ d ∈ tables_1, d.before a0 Z = true) : ((Jvm.Cond.code ({ cls := "java/lang/StringLatin1", name := "toBytes", desc := "(C)[B" } : Jvm.MethodName) jdk_43_method_46_code (1 : Nat) (Option.some (Jvm.ClassFile.FieldType.array Jvm.ClassFile.FieldType.byte)))).before a0 Z = true := hw _ (List.mem_of_getElem? (i := 13) rfl)
theorem tw14 {Z : State} {a0 : Array Value} (hw : ∀ d ∈ tables_1, d.before a0 Z = true) : ((Jvm.Cond.arrayClass Jvm.ClassFile.FieldType.byte)).before a0 Z = true := hw _ (List.mem_of_getElem? (i := 14) rfl)
theorem tw15 {Z : State} {a0 : Array Value} (hw : ∀ d ∈ tables_1, d.before a0 Z = true) : ((Jvm.Cond.methodLink "java/lang/String" (209 : Nat) ({ cls := "java/lang/String", name := "<init>", desc := "([BB)V" } : Jvm.MethodName))).before a0 Z = true := hw _ (List.mem_of_getElem? (i := 15) rfl)
theorem tw16 {Z : State} {a0 : Array Value} (hw : ∀ d ∈ tables_1, d.before a0 Z = true) : ((Jvm.Cond.instanceMethod ({ cls := "java/lang/String", name := "<init>", desc := "([BB)V" } : Jvm.MethodName))).before a0 Z = true := hw _ (List.mem_of_getElem? (i := 16) rfl)
theorem tw18 {Z : State} {a0 : Array Value} (hw : ∀ d ∈ tables_1, d.before a0 Z = true) : ((Jvm.Cond.code ({ cls := "java/lang/String", name := "<init>", desc := "([BB)V" } : Jvm.MethodName) jdk_42_method_151_code (3 : Nat) (Option.none : Option Jvm.ClassFile.FieldType))).before a0 Z = true := hw _ (List.mem_of_getElem? (i := 18) rfl)
theorem tw19 {Z : State} {a0 : Array Value} (hw : ∀ d ∈ tables_1, d.before a0 Z = true) : ((Jvm.Cond.methodLink "java/lang/String" (1 : Nat) ({ cls := "java/lang/Object", name := "<init>", desc := "()V" } : Jvm.MethodName))).before a0 Z = true := hw _ (List.mem_of_getElem? (i := 19) rfl)
theorem tw20 {Z : State} {a0 : Array Value} (hw : ∀ d ∈ tables_1, d.before a0 Z = true) : ((Jvm.Cond.instanceMethod ({ cls := "java/lang/Object", name := "<init>", desc := "()V" } : Jvm.MethodName))).before a0 Z = true := hw _ (List.mem_of_getElem? (i := 20) rfl)
theorem tw21 {Z : State} {a0 : Array Value} (hw : ∀ d ∈ tables_1, d.before a0 Z = true) : ((Jvm.Cond.code ({ cls := "java/lang/Object", name := "<init>", desc := "()V" } : Jvm.MethodName) object_method_1_code (1 : Nat) (Option.none : Option Jvm.ClassFile.FieldType))).before a0 Z = true := hw _ (List.mem_of_getElem? (i := 21) rfl)
theorem tw22 {Z : State} {a0 : Array Value} (hw : ∀ d ∈ tables_1, d.before a0 Z = true) : ((Jvm.Cond.fieldLink "java/lang/String" (9 : Nat) "java/lang/String" "value" "[B")).before a0 Z = true := hw _ (List.mem_of_getElem? (i := 22) rfl)
theorem tw23 {Z : State} {a0 : Array Value} (hw : ∀ d ∈ tables_1, d.before a0 Z = true) : ((Jvm.Cond.laysFinal "java/lang/String" "java/lang/String" "value" "[B")).before a0 Z = true := hw _ (List.mem_of_getElem? (i := 23) rfl)
theorem tw24 {Z : State} {a0 : Array Value} (hw : ∀ d ∈ tables_1, d.before a0 Z = true) : ((Jvm.Cond.fieldLink "java/lang/String" (15 : Nat) "java/lang/String" "coder" "B")).before a0 Z = true := hw _ (List.mem_of_getElem? (i := 24) rfl)
theorem tw25 {Z : State} {a0 : Array Value} (hw : ∀ d ∈ tables_1, d.before a0 Z = true) : ((Jvm.Cond.laysFinal "java/lang/String" "java/lang/String" "coder" "B")).before a0 Z = true := hw _ (List.mem_of_getElem? (i := 25) rfl)
theorem tw26 {Z : State} {a0 : Array Value} (hw : ∀ d ∈ tables_1, d.before a0 Z = true) : ((Jvm.Cond.methodLink "com/example/valuta/valuta/api/TextFieldHostIdPinLaw" (16 : Nat) ({ cls := "com/example/valuta/valuta/api/TextField", name := "hostId", desc := "(Ljava/lang/String;)Lcom/example/valuta/valuta/api/TextField;" } : Jvm.MethodName))).before a0 Z = true := hw _ (List.mem_of_getElem? (i := 26) rfl)
theorem tw27 {Z : State} {a0 : Array Value} (hw : ∀ d ∈ tables_1, d.before a0 Z = true) : ((Jvm.Cond.static ({ cls := "com/example/valuta/valuta/api/TextField", name := "hostId", desc := "(Ljava/lang/String;)Lcom/example/valuta/valuta/api/TextField;" } : Jvm.MethodName))).before a0 Z = true := hw _ (List.mem_of_getElem? (i := 27) rfl)
theorem tw28 {Z : State} {a0 : Array Value} (hw : ∀ d ∈ tables_1, d.before a0 Z = true) : ((Jvm.Cond.initialized "com/example/valuta/valuta/api/TextField")).before a0 Z = true := hw _ (List.mem_of_getElem? (i := 28) rfl)
theorem tw29 {Z : State} {a0 : Array Value} (hw : ∀ d ∈ tables_1, d.before a0 Z = true) : ((Jvm.Cond.code ({ cls := "com/example/valuta/valuta/api/TextField", name := "hostId", desc := "(Ljava/lang/String;)Lcom/example/valuta/valuta/api/TextField;" } : Jvm.MethodName) prog_19_method_3_code (1 : Nat) (Option.some (Jvm.ClassFile.FieldType.object "com/example/valuta/valuta/api/TextField")))).before a0 Z = true := hw _ (List.mem_of_getElem? (i := 29) rfl)
theorem tw30 {Z : State} {a0 : Array Value} (hw : ∀ d ∈ tables_1, d.before a0 Z = true) : ((Jvm.Cond.classLink "com/example/valuta/valuta/api/TextField" (8 : Nat) "com/example/valuta/valuta/api/TextField")).before a0 Z = true := hw _ (List.mem_of_getElem? (i := 30) rfl)
theorem tw31 {Z : State} {a0 : Array Value} (hw : ∀ d ∈ tables_1, d.before a0 Z = true) : ((Jvm.Cond.instantiable "com/example/valuta/valuta/api/TextField" (3 : Nat))).before a0 Z = true := hw _ (List.mem_of_getElem? (i := 31) rfl)
theorem tw32 {Z : State} {a0 : Array Value} (hw : ∀ d ∈ tables_1, d.before a0 Z = true) : ((Jvm.Cond.methodLink "com/example/valuta/valuta/api/TextField" (21 : Nat) ({ cls := "com/example/valuta/valuta/api/TextField", name := "<init>", desc := "(Ljava/lang/String;IZ)V" } : Jvm.MethodName))).before a0 Z = true := hw _ (List.mem_of_getElem? (i := 32) rfl)
theorem tw33 {Z : State} {a0 : Array Value} (hw : ∀ d ∈ tables_1, d.before a0 Z = true) : ((Jvm.Cond.instanceMethod ({ cls := "com/example/valuta/valuta/api/TextField", name := "<init>", desc := "(Ljava/lang/String;IZ)V" } : Jvm.MethodName))).before a0 Z = true := hw _ (List.mem_of_getElem? (i := 33) rfl)
theorem tw34 {Z : State} {a0 : Array Value} (hw : ∀ d ∈ tables_1, d.before a0 Z = true) : ((Jvm.Cond.code ({ cls := "com/example/valuta/valuta/api/TextField", name := "<init>", desc := "(Ljava/lang/String;IZ)V" } : Jvm.MethodName) prog_19_method_2_code (4 : Nat) (Option.none : Option Jvm.ClassFile.FieldType))).before a0 Z = true := hw _ (List.mem_of_getElem? (i := 34) rfl)
theorem tw35 {Z : State} {a0 : Array Value} (hw : ∀ d ∈ tables_1, d.before a0 Z = true) : ((Jvm.Cond.methodLink "com/example/valuta/valuta/api/TextField" (1 : Nat) ({ cls := "java/lang/Record", name := "<init>", desc := "()V" } : Jvm.MethodName))).before a0 Z = true := hw _ (List.mem_of_getElem? (i := 35) rfl)
theorem tw36 {Z : State} {a0 : Array Value} (hw : ∀ d ∈ tables_1, d.before a0 Z = true) : ((Jvm.Cond.instanceMethod ({ cls := "java/lang/Record", name := "<init>", desc := "()V" } : Jvm.MethodName))).before a0 Z = true := hw _ (List.mem_of_getElem? (i := 36) rfl)
theorem tw38 {Z : State} {a0 : Array Value} (hw : ∀ d ∈ tables_1, d.before a0 Z = true) : ((Jvm.Cond.initialized "java/lang/Record")).before a0 Z = true := hw _ (List.mem_of_getElem? (i := 38) rfl)
theorem tw39 {Z : State} {a0 : Array Value} (hw : ∀ d ∈ tables_1, d.before a0 Z = true) : ((Jvm.Cond.code ({ cls := "java/lang/Record", name := "<init>", desc := "()V" } : Jvm.MethodName) jdk_30_method_1_code (1 : Nat) (Option.none : Option Jvm.ClassFile.FieldType))).before a0 Z = true := hw _ (List.mem_of_getElem? (i := 39) rfl)
theorem tw40 {Z : State} {a0 : Array Value} (hw : ∀ d ∈ tables_1, d.before a0 Z = true) : ((Jvm.Cond.methodLink "java/lang/Record" (1 : Nat) ({ cls := "java/lang/Object", name := "<init>", desc := "()V" } : Jvm.MethodName))).before a0 Z = true := hw _ (List.mem_of_getElem? (i := 40) rfl)
theorem tw41 {Z : State} {a0 : Array Value} (hw : ∀ d ∈ tables_1, d.before a0 Z = true) : ((Jvm.Cond.fieldLink "com/example/valuta/valuta/api/TextField" (7 : Nat) "com/example/valuta/valuta/api/TextField" "name" "Ljava/lang/String;")).before a0 Z = true := hw _ (List.mem_of_getElem? (i := 41) rfl)
theorem tw42 {Z : State} {a0 : Array Value} (hw : ∀ d ∈ tables_1, d.before a0 Z = true) : ((Jvm.Cond.laysFinal "com/example/valuta/valuta/api/TextField" "com/example/valuta/valuta/api/TextField" "name" "Ljava/lang/String;")).before a0 Z = true := hw _ (List.mem_of_getElem? (i := 42) rfl)
theorem tw43 {Z : State} {a0 : Array Value} (hw : ∀ d ∈ tables_1, d.before a0 Z = true) : ((Jvm.Cond.fieldLink "com/example/valuta/valuta/api/TextField" (13 : Nat) "com/example/valuta/valuta/api/TextField" "maxLength" "I")).before a0 Z = true := hw _ (List.mem_of_getElem? (i := 43) rfl)
theorem tw44 {Z : State} {a0 : Array Value} (hw : ∀ d ∈ tables_1, d.before a0 Z = true) : ((Jvm.Cond.laysFinal "com/example/valuta/valuta/api/TextField" "com/example/valuta/valuta/api/TextField" "maxLength" "I")).before a0 Z = true := hw _ (List.mem_of_getElem? (i := 44) rfl)
theorem tw45 {Z : State} {a0 : Array Value} (hw : ∀ d ∈ tables_1, d.before a0 Z = true) : ((Jvm.Cond.fieldLink "com/example/valuta/valuta/api/TextField" (17 : Nat) "com/example/valuta/valuta/api/TextField" "hostId" "Z")).before a0 Z = true := hw _ (List.mem_of_getElem? (i := 45) rfl)
theorem tw46 {Z : State} {a0 : Array Value} (hw : ∀ d ∈ tables_1, d.before a0 Z = true) : ((Jvm.Cond.laysFinal "com/example/valuta/valuta/api/TextField" "com/example/valuta/valuta/api/TextField" "hostId" "Z")).before a0 Z = true := hw _ (List.mem_of_getElem? (i := 46) rfl)
theorem tw47 {Z : State} {a0 : Array Value} (hw : ∀ d ∈ tables_1, d.before a0 Z = true) : ((Jvm.Cond.methodLink "com/example/valuta/valuta/api/TextFieldHostIdPinLaw" (22 : Nat) ({ cls := "com/example/valuta/valuta/api/TextField", name := "name", desc := "()Ljava/lang/String;" } : Jvm.MethodName))).before a0 Z = true := hw _ (List.mem_of_getElem? (i := 47) rfl)
theorem tw48 {Z : State} {a0 : Array Value} (hw : ∀ d ∈ tables_1, d.before a0 Z = true) : ((Jvm.Cond.declares ({ cls := "com/example/valuta/valuta/api/TextField", name := "name", desc := "()Ljava/lang/String;" } : Jvm.MethodName))).before a0 Z = true := hw _ (List.mem_of_getElem? (i := 48) rfl)
theorem tw49 {Z : State} {a0 : Array Value} (hw : ∀ d ∈ tables_1, d.before a0 Z = true) : ((Jvm.Cond.instanceMethod ({ cls := "com/example/valuta/valuta/api/TextField", name := "name", desc := "()Ljava/lang/String;" } : Jvm.MethodName))).before a0 Z = true := hw _ (List.mem_of_getElem? (i := 49) rfl)
theorem tw50 {Z : State} {a0 : Array Value} (hw : ∀ d ∈ tables_1, d.before a0 Z = true) : ((Jvm.Cond.selects "com/example/valuta/valuta/api/TextField" ({ cls := "com/example/valuta/valuta/api/TextField", name := "name", desc := "()Ljava/lang/String;" } : Jvm.MethodName) ({ cls := "com/example/valuta/valuta/api/TextField", name := "name", desc := "()Ljava/lang/String;" } : Jvm.MethodName))).before a0 Z = true := hw _ (List.mem_of_getElem? (i := 50) rfl)
theorem tw51 {Z : State} {a0 : Array Value} (hw : ∀ d ∈ tables_1, d.before a0 Z = true) : ((Jvm.Cond.code ({ cls := "com/example/valuta/valuta/api/TextField", name := "name", desc := "()Ljava/lang/String;" } : Jvm.MethodName) prog_19_method_7_code (1 : Nat) (Option.some (Jvm.ClassFile.FieldType.object "java/lang/String")))).before a0 Z = true := hw _ (List.mem_of_getElem? (i := 51) rfl)
theorem tw52 {Z : State} {a0 : Array Value} (hw : ∀ d ∈ tables_1, d.before a0 Z = true) : ((Jvm.Cond.methodLink "com/example/valuta/valuta/api/TextFieldHostIdPinLaw" (26 : Nat) ({ cls := "java/lang/String", name := "equals", desc := "(Ljava/lang/Object;)Z" } : Jvm.MethodName))).before a0 Z = true := hw _ (List.mem_of_getElem? (i := 52) rfl)
theorem tw53 {Z : State} {a0 : Array Value} (hw : ∀ d ∈ tables_1, d.before a0 Z = true) : ((Jvm.Cond.declares ({ cls := "java/lang/String", name := "equals", desc := "(Ljava/lang/Object;)Z" } : Jvm.MethodName))).before a0 Z = true := hw _ (List.mem_of_getElem? (i := 53) rfl)
theorem tw54 {Z : State} {a0 : Array Value} (hw : ∀ d ∈ tables_1, d.before a0 Z = true) : ((Jvm.Cond.instanceMethod ({ cls := "java/lang/String", name := "equals", desc := "(Ljava/lang/Object;)Z" } : Jvm.MethodName))).before a0 Z = true := hw _ (List.mem_of_getElem? (i := 54) rfl)
theorem tw55 {Z : State} {a0 : Array Value} (hw : ∀ d ∈ tables_1, d.before a0 Z = true) : ((Jvm.Cond.selects "java/lang/String" ({ cls := "java/lang/String", name := "equals", desc := "(Ljava/lang/Object;)Z" } : Jvm.MethodName) ({ cls := "java/lang/String", name := "equals", desc := "(Ljava/lang/Object;)Z" } : Jvm.MethodName))).before a0 Z = true := hw _ (List.mem_of_getElem? (i := 55) rfl)
theorem tw56 {Z : State} {a0 : Array Value} (hw : ∀ d ∈ tables_1, d.before a0 Z = true) : ((Jvm.Cond.code ({ cls := "java/lang/String", name := "equals", desc := "(Ljava/lang/Object;)Z" } : Jvm.MethodName) jdk_42_method_66_code (3 : Nat) (Option.some Jvm.ClassFile.FieldType.boolean))).before a0 Z = true := hw _ (List.mem_of_getElem? (i := 56) rfl)
theorem tw57 {Z : State} {a0 : Array Value} (hw : ∀ d ∈ tables_1, d.before a0 Z = true) : ((Jvm.Cond.methodLink "com/example/valuta/valuta/api/TextFieldHostIdPinLaw" (30 : Nat) ({ cls := "com/example/valuta/valuta/api/TextField", name := "maxLength", desc := "()I" } : Jvm.MethodName))).before a0 Z = true := hw _ (List.mem_of_getElem? (i := 57) rfl)
theorem tw58 {Z : State} {a0 : Array Value} (hw : ∀ d ∈ tables_1, d.before a0 Z = true) : ((Jvm.Cond.declares ({ cls := "com/example/valuta/valuta/api/TextField", name := "maxLength", desc := "()I" } : Jvm.MethodName))).before a0 Z = true := hw _ (List.mem_of_getElem? (i := 58) rfl)
theorem tw59 {Z : State} {a0 : Array Value} (hw : ∀ d ∈ tables_1, d.before a0 Z = true) : ((Jvm.Cond.instanceMethod ({ cls := "com/example/valuta/valuta/api/TextField", name := "maxLength", desc := "()I" } : Jvm.MethodName))).before a0 Z = true := hw _ (List.mem_of_getElem? (i := 59) rfl)
theorem tw60 {Z : State} {a0 : Array Value} (hw : ∀ d ∈ tables_1, d.before a0 Z = true) : ((Jvm.Cond.selects "com/example/valuta/valuta/api/TextField" ({ cls := "com/example/valuta/valuta/api/TextField", name := "maxLength", desc := "()I" } : Jvm.MethodName) ({ cls := "com/example/valuta/valuta/api/TextField", name := "maxLength", desc := "()I" } : Jvm.MethodName))).before a0 Z = true := hw _ (List.mem_of_getElem? (i := 60) rfl)
theorem tw61 {Z : State} {a0 : Array Value} (hw : ∀ d ∈ tables_1, d.before a0 Z = true) : ((Jvm.Cond.code ({ cls := "com/example/valuta/valuta/api/TextField", name := "maxLength", desc := "()I" } : Jvm.MethodName) prog_19_method_8_code (1 : Nat) (Option.some Jvm.ClassFile.FieldType.int))).before a0 Z = true := hw _ (List.mem_of_getElem? (i := 61) rfl)
theorem tw62 {Z : State} {a0 : Array Value} (hw : ∀ d ∈ tables_1, d.before a0 Z = true) : ((Jvm.Cond.methodLink "com/example/valuta/valuta/api/TextFieldHostIdPinLaw" (34 : Nat) ({ cls := "com/example/valuta/valuta/api/TextField", name := "hostId", desc := "()Z" } : Jvm.MethodName))).before a0 Z = true := hw _ (List.mem_of_getElem? (i := 62) rfl)
theorem tw63 {Z : State} {a0 : Array Value} (hw : ∀ d ∈ tables_1, d.before a0 Z = true) : ((Jvm.Cond.declares ({ cls := "com/example/valuta/valuta/api/TextField", name := "hostId", desc := "()Z" } : Jvm.MethodName))).before a0 Z = true := hw _ (List.mem_of_getElem? (i := 63) rfl)
theorem tw64 {Z : State} {a0 : Array Value} (hw : ∀ d ∈ tables_1, d.before a0 Z = true) : ((Jvm.Cond.instanceMethod ({ cls := "com/example/valuta/valuta/api/TextField", name := "hostId", desc := "()Z" } : Jvm.MethodName))).before a0 Z = true := hw _ (List.mem_of_getElem? (i := 64) rfl)
theorem tw65 {Z : State} {a0 : Array Value} (hw : ∀ d ∈ tables_1, d.before a0 Z = true) : ((Jvm.Cond.selects "com/example/valuta/valuta/api/TextField" ({ cls := "com/example/valuta/valuta/api/TextField", name := "hostId", desc := "()Z" } : Jvm.MethodName) ({ cls := "com/example/valuta/valuta/api/TextField", name := "hostId", desc := "()Z" } : Jvm.MethodName))).before a0 Z = true := hw _ (List.mem_of_getElem? (i := 65) rfl)
theorem tw66 {Z : State} {a0 : Array Value} (hw : ∀ d ∈ tables_1, d.before a0 Z = true) : ((Jvm.Cond.code ({ cls := "com/example/valuta/valuta/api/TextField", name := "hostId", desc := "()Z" } : Jvm.MethodName) prog_19_method_9_code (1 : Nat) (Option.some Jvm.ClassFile.FieldType.boolean))).before a0 Z = true := hw _ (List.mem_of_getElem? (i := 66) rfl)
theorem tw67 {Z : State} {a0 : Array Value} (hw : ∀ d ∈ tables_1, d.before a0 Z = true) : ((Jvm.Cond.classLink "com/example/valuta/valuta/api/TextFieldHostIdPinLaw" (7 : Nat) "java/lang/String")).before a0 Z = true := hw _ (List.mem_of_getElem? (i := 67) rfl)
theorem tw68 {Z : State} {a0 : Array Value} (hw : ∀ d ∈ tables_1, d.before a0 Z = true) : ((Jvm.Cond.arrayClass Jvm.ClassFile.FieldType.char)).before a0 Z = true := hw _ (List.mem_of_getElem? (i := 68) rfl)
theorem tw69 {Z : State} {a0 : Array Value} (hw : ∀ d ∈ tables_1, d.before a0 Z = true) : ((Jvm.Cond.methodLink "com/example/valuta/valuta/api/TextFieldHostIdPinLaw" (9 : Nat) ({ cls := "java/lang/String", name := "<init>", desc := "([C)V" } : Jvm.MethodName))).before a0 Z = true := hw _ (List.mem_of_getElem? (i := 69) rfl)
theorem tw70 {Z : State} {a0 : Array Value} (hw : ∀ d ∈ tables_1, d.before a0 Z = true) : ((Jvm.Cond.instanceMethod ({ cls := "java/lang/String", name := "<init>", desc := "([C)V" } : Jvm.MethodName))).before a0 Z = true := hw _ (List.mem_of_getElem? (i := 70) rfl)
theorem tw71 {Z : State} {a0 : Array Value} (hw : ∀ d ∈ tables_1, d.before a0 Z = true) : ((Jvm.Cond.code ({ cls := "java/lang/String", name := "<init>", desc := "([C)V" } : Jvm.MethodName) jdk_42_method_3_code (2 : Nat) (Option.none : Option Jvm.ClassFile.FieldType))).before a0 Z = true := hw _ (List.mem_of_getElem? (i := 71) rfl)
theorem tw72 {Z : State} {a0 : Array Value} (hw : ∀ d ∈ tables_1, d.before a0 Z = true) : ((Jvm.Cond.methodLink "java/lang/String" (27 : Nat) ({ cls := "java/lang/String", name := "<init>", desc := "([CIILjava/lang/Void;)V" } : Jvm.MethodName))).before a0 Z = true := hw _ (List.mem_of_getElem? (i := 72) rfl)
theorem tw73 {Z : State} {a0 : Array Value} (hw : ∀ d ∈ tables_1, d.before a0 Z = true) : ((Jvm.Cond.instanceMethod ({ cls := "java/lang/String", name := "<init>", desc := "([CIILjava/lang/Void;)V" } : Jvm.MethodName))).before a0 Z = true := hw _ (List.mem_of_getElem? (i := 73) rfl)
theorem tw74 {Z : State} {a0 : Array Value} (hw : ∀ d ∈ tables_1, d.before a0 Z = true) : ((Jvm.Cond.code ({ cls := "java/lang/String", name := "<init>", desc := "([CIILjava/lang/Void;)V" } : Jvm.MethodName) jdk_42_method_149_code (6 : Nat) (Option.none : Option Jvm.ClassFile.FieldType))).before a0 Z = true := hw _ (List.mem_of_getElem? (i := 74) rfl)
theorem tw75 {Z : State} {a0 : Array Value} (hw : ∀ d ∈ tables_1, d.before a0 Z = true) : ((Jvm.Cond.methodLink "java/lang/String" (177 : Nat) ({ cls := "java/lang/StringUTF16", name := "compress", desc := "([CII)[B" } : Jvm.MethodName))).before a0 Z = true := hw _ (List.mem_of_getElem? (i := 75) rfl)
theorem tw76 {Z : State} {a0 : Array Value} (hw : ∀ d ∈ tables_1, d.before a0 Z = true) : ((Jvm.Cond.static ({ cls := "java/lang/StringUTF16", name := "compress", desc := "([CII)[B" } : Jvm.MethodName))).before a0 Z = true := hw _ (List.mem_of_getElem? (i := 76) rfl)
theorem tw77 {Z : State} {a0 : Array Value} (hw : ∀ d ∈ tables_1, d.before a0 Z = true) : ((Jvm.Cond.initialized "java/lang/StringUTF16")).before a0 Z = true := hw _ (List.mem_of_getElem? (i := 77) rfl)
theorem tw78 {Z : State} {a0 : Array Value} (hw : ∀ d ∈ tables_1, d.before a0 Z = true) : ((Jvm.Cond.code ({ cls := "java/lang/StringUTF16", name := "compress", desc := "([CII)[B" } : Jvm.MethodName) jdk_52_method_16_code (6 : Nat) (Option.some (Jvm.ClassFile.FieldType.array Jvm.ClassFile.FieldType.byte)))).before a0 Z = true := hw _ (List.mem_of_getElem? (i := 78) rfl)
theorem tw79 {Z : State} {a0 : Array Value} (hw : ∀ d ∈ tables_1, d.before a0 Z = true) : ((Jvm.Cond.methodLink "java/lang/StringUTF16" (115 : Nat) ({ cls := "java/lang/StringUTF16", name := "compress", desc := "([CI[BII)I" } : Jvm.MethodName))).before a0 Z = true := hw _ (List.mem_of_getElem? (i := 79) rfl)
theorem tw80 {Z : State} {a0 : Array Value} (hw : ∀ d ∈ tables_1, d.before a0 Z = true) : ((Jvm.Cond.static ({ cls := "java/lang/StringUTF16", name := "compress", desc := "([CI[BII)I" } : Jvm.MethodName))).before a0 Z = true := hw _ (List.mem_of_getElem? (i := 80) rfl)
theorem tw81 {Z : State} {a0 : Array Value} (hw : ∀ d ∈ tables_1, d.before a0 Z = true) : ((Jvm.Cond.code ({ cls := "java/lang/StringUTF16", name := "compress", desc := "([CI[BII)I" } : Jvm.MethodName) jdk_52_method_21_code (7 : Nat) (Option.some Jvm.ClassFile.FieldType.int))).before a0 Z = true := hw _ (List.mem_of_getElem? (i := 81) rfl)
theorem tw82 {Z : State} {a0 : Array Value} (hw : ∀ d ∈ tables_1, d.before a0 Z = true) : ((Jvm.Cond.methodLink "java/lang/String" (47 : Nat) ({ cls := "java/lang/StringUTF16", name := "coderFromArrayLen", desc := "([BI)B" } : Jvm.MethodName))).before a0 Z = true := hw _ (List.mem_of_getElem? (i := 82) rfl)
theorem tw83 {Z : State} {a0 : Array Value} (hw : ∀ d ∈ tables_1, d.before a0 Z = true) : ((Jvm.Cond.static ({ cls := "java/lang/StringUTF16", name := "coderFromArrayLen", desc := "([BI)B" } : Jvm.MethodName))).before a0 Z = true := hw _ (List.mem_of_getElem? (i := 83) rfl)
theorem tw84 {Z : State} {a0 : Array Value} (hw : ∀ d ∈ tables_1, d.before a0 Z = true) : ((Jvm.Cond.code ({ cls := "java/lang/StringUTF16", name := "coderFromArrayLen", desc := "([BI)B" } : Jvm.MethodName) jdk_52_method_15_code (2 : Nat) (Option.some Jvm.ClassFile.FieldType.byte))).before a0 Z = true := hw _ (List.mem_of_getElem? (i := 84) rfl)
theorem tw85 {Z : State} {a0 : Array Value} (hw : ∀ d ∈ tables_1, d.before a0 Z = true) : ((Jvm.Cond.stringLink "java/lang/String" (7 : Nat) "")).before a0 Z = true := hw _ (List.mem_of_getElem? (i := 85) rfl)
theorem tw86 {Z : State} {a0 : Array Value} (hw : ∀ d ∈ tables_1, d.before a0 Z = true) : ((Jvm.Cond.soleField "java/lang/String" "value")).before a0 Z = true := hw _ (List.mem_of_getElem? (i := 86) rfl)
theorem tw87 {Z : State} {a0 : Array Value} (hw : ∀ d ∈ tables_1, d.before a0 Z = true) : ((Jvm.Cond.soleField "java/lang/String" "coder")).before a0 Z = true := hw _ (List.mem_of_getElem? (i := 87) rfl)
theorem pd_0 : parseMethodDescriptor "([CI[BII)I" = some ⟨[(.array .char), .int, (.array .byte), .int, .int], some .int⟩ := by decide +kernel
theorem pd_1 : parseMethodDescriptor "([CII)[B" = some ⟨[(.array .char), .int, .int], some (.array .byte)⟩ := by decide +kernel
theorem pd_2 : parseMethodDescriptor "([BI)B" = some ⟨[(.array .byte), .int], some .byte⟩ := by decide +kernel
theorem pd_3 : parseMethodDescriptor "([CIILjava/lang/Void;)V" = some ⟨[(.array .char), .int, .int, (.object "java/lang/Void")], none⟩ := by decide +kernel
theorem pd_4 : parseMethodDescriptor "([C)V" = some ⟨[(.array .char)], none⟩ := by decide +kernel
theorem pd_5 : parseMethodDescriptor "(C)Z" = some ⟨[.char], some .boolean⟩ := by decide +kernel
theorem pd_6 : parseMethodDescriptor "(C)[B" = some ⟨[.char], some (.array .byte)⟩ := by decide +kernel
theorem pd_7 : parseMethodDescriptor "([BB)V" = some ⟨[(.array .byte), .byte], none⟩ := by decide +kernel
theorem pd_8 : parseMethodDescriptor "(C)Ljava/lang/String;" = some ⟨[.char], some (.object "java/lang/String")⟩ := by decide +kernel
theorem pd_9 : parseMethodDescriptor "()V" = some ⟨[], none⟩ := by decide +kernel
theorem pd_10 : parseMethodDescriptor "(Ljava/lang/String;IZ)V" = some ⟨[(.object "java/lang/String"), .int, .boolean], none⟩ := by decide +kernel
theorem pd_11 : parseMethodDescriptor "(Ljava/lang/String;)Lcom/example/valuta/valuta/api/TextField;" = some ⟨[(.object "java/lang/String")], some (.object "com/example/valuta/valuta/api/TextField")⟩ := by decide +kernel
theorem pd_12 : parseMethodDescriptor "()Ljava/lang/String;" = some ⟨[], some (.object "java/lang/String")⟩ := by decide +kernel
theorem pd_13 : parseMethodDescriptor "()I" = some ⟨[], some .int⟩ := by decide +kernel
theorem pd_14 : parseMethodDescriptor "()Z" = some ⟨[], some .boolean⟩ := by decide +kernel
theorem pd_15 : parseMethodDescriptor "(Ljava/lang/Object;)Z" = some ⟨[(.object "java/lang/Object")], some .boolean⟩ := by decide +kernel
theorem pn_0 : plainName "java/lang/StringUTF16" = true := by first | (simp [plainName, overriddenIn]; done) | decide +kernel
theorem pn_1 : plainName "java/lang/String" = true := by first | (simp [plainName, overriddenIn]; done) | decide +kernel
theorem pn_2 : plainName "java/lang/StringLatin1" = true := by first | (simp [plainName, overriddenIn]; done) | decide +kernel
theorem pn_3 : plainName "java/lang/Record" = true := by first | (simp [plainName, overriddenIn]; done) | decide +kernel
theorem pn_4 : plainName "com/example/valuta/valuta/api/TextField" = true := by first | (simp [plainName, overriddenIn]; done) | decide +kernel
theorem pn_5 : plainName "com/example/valuta/valuta/api/TextFieldHostIdPinLaw" = true := by first | (simp [plainName, overriddenIn]; done) | decide +kernel
theorem d_j42_3_0 : decode jdk_42_method_3_code 0 = .ok (.aload_n 0, 1) := by decide +kernel
theorem d_j42_3_1 : decode jdk_42_method_3_code 1 = .ok (.aload_n 1, 1) := by decide +kernel
theorem d_j42_3_2 : decode jdk_42_method_3_code 2 = .ok (.iconst 0, 1) := by decide +kernel
theorem d_j42_3_3 : decode jdk_42_method_3_code 3 = .ok (.aload_n 1, 1) := by decide +kernel
theorem d_j42_3_4 : decode jdk_42_method_3_code 4 = .ok (.arraylength, 1) := by decide +kernel
theorem d_j42_3_5 : decode jdk_42_method_3_code 5 = .ok (.aconst_null, 1) := by decide +kernel
theorem d_j42_3_6 : decode jdk_42_method_3_code 6 = .ok (.invokespecial 27, 3) := by decide +kernel
theorem d_j42_149_0 : decode jdk_42_method_149_code 0 = .ok (.aload_n 0, 1) := by decide +kernel
theorem d_j42_149_1 : decode jdk_42_method_149_code 1 = .ok (.invokespecial 1, 3) := by decide +kernel
theorem d_j42_149_4 : decode jdk_42_method_149_code 4 = .ok (.iload_n 3, 1) := by decide +kernel
theorem d_j42_149_5 : decode jdk_42_method_149_code 5 = .ok (.ifCond .ne 22, 3) := by decide +kernel
theorem d_j42_149_27 : decode jdk_42_method_149_code 27 = .ok (.getstatic 38, 3) := by decide +kernel
theorem d_j42_149_30 : decode jdk_42_method_149_code 30 = .ok (.ifCond .eq 28, 3) := by decide +kernel
theorem d_j42_149_33 : decode jdk_42_method_149_code 33 = .ok (.aload_n 1, 1) := by decide +kernel
theorem d_j42_149_34 : decode jdk_42_method_149_code 34 = .ok (.iload_n 2, 1) := by decide +kernel
theorem d_j42_149_35 : decode jdk_42_method_149_code 35 = .ok (.iload_n 3, 1) := by decide +kernel
theorem d_j42_149_36 : decode jdk_42_method_149_code 36 = .ok (.invokestatic 177, 3) := by decide +kernel
theorem d_j52_16_0 : decode jdk_52_method_16_code 0 = .ok (.iload_n 2, 1) := by decide +kernel
theorem d_j52_16_1 : decode jdk_52_method_16_code 1 = .ok (.newarray .byte, 2) := by decide +kernel
theorem d_j52_16_3 : decode jdk_52_method_16_code 3 = .ok (.astore_n 3, 1) := by decide +kernel
theorem d_j52_16_4 : decode jdk_52_method_16_code 4 = .ok (.aload_n 0, 1) := by decide +kernel
theorem d_j52_16_5 : decode jdk_52_method_16_code 5 = .ok (.iload_n 1, 1) := by decide +kernel
theorem d_j52_16_6 : decode jdk_52_method_16_code 6 = .ok (.aload_n 3, 1) := by decide +kernel
theorem d_j52_16_7 : decode jdk_52_method_16_code 7 = .ok (.iconst 0, 1) := by decide +kernel
theorem d_j52_16_8 : decode jdk_52_method_16_code 8 = .ok (.iload_n 2, 1) := by decide +kernel
theorem d_j52_16_9 : decode jdk_52_method_16_code 9 = .ok (.invokestatic 115, 3) := by decide +kernel
theorem d_j52_21_0 : decode jdk_52_method_21_code 0 = .ok (.iconst 0, 1) := by decide +kernel
theorem d_j52_21_1 : decode jdk_52_method_21_code 1 = .ok (.istore 5, 2) := by decide +kernel
theorem d_j52_21_3 : decode jdk_52_method_21_code 3 = .ok (.iload 5, 2) := by decide +kernel
theorem d_j52_21_5 : decode jdk_52_method_21_code 5 = .ok (.iload 4, 2) := by decide +kernel
theorem d_j52_21_7 : decode jdk_52_method_21_code 7 = .ok (.if_icmp .ge 37, 3) := by decide +kernel
theorem d_j52_21_10 : decode jdk_52_method_21_code 10 = .ok (.aload_n 0, 1) := by decide +kernel
theorem d_j52_21_11 : decode jdk_52_method_21_code 11 = .ok (.iload_n 1, 1) := by decide +kernel
theorem d_j52_21_12 : decode jdk_52_method_21_code 12 = .ok (.caload, 1) := by decide +kernel
theorem d_j52_21_13 : decode jdk_52_method_21_code 13 = .ok (.istore 6, 2) := by decide +kernel
theorem d_j52_21_15 : decode jdk_52_method_21_code 15 = .ok (.iload 6, 2) := by decide +kernel
theorem d_j52_21_17 : decode jdk_52_method_21_code 17 = .ok (.sipush 255, 3) := by decide +kernel
theorem d_j52_21_20 : decode jdk_52_method_21_code 20 = .ok (.if_icmp .le 6, 3) := by decide +kernel
theorem d_j52_21_26 : decode jdk_52_method_21_code 26 = .ok (.aload_n 2, 1) := by decide +kernel
theorem d_j52_21_27 : decode jdk_52_method_21_code 27 = .ok (.iload_n 3, 1) := by decide +kernel
theorem d_j52_21_28 : decode jdk_52_method_21_code 28 = .ok (.iload 6, 2) := by decide +kernel
theorem d_j52_21_30 : decode jdk_52_method_21_code 30 = .ok (.i2b, 1) := by decide +kernel
theorem d_j52_21_31 : decode jdk_52_method_21_code 31 = .ok (.bastore, 1) := by decide +kernel
theorem d_j52_21_32 : decode jdk_52_method_21_code 32 = .ok (.iinc 1 1, 3) := by decide +kernel
theorem d_j52_21_35 : decode jdk_52_method_21_code 35 = .ok (.iinc 3 1, 3) := by decide +kernel
theorem d_j52_21_38 : decode jdk_52_method_21_code 38 = .ok (.iinc 5 1, 3) := by decide +kernel
theorem d_j52_21_41 : decode jdk_52_method_21_code 41 = .ok (.goto (-38), 3) := by decide +kernel
theorem d_j52_21_44 : decode jdk_52_method_21_code 44 = .ok (.iload 4, 2) := by decide +kernel
theorem d_j52_21_46 : decode jdk_52_method_21_code 46 = .ok (.ireturn, 1) := by decide +kernel
theorem d_j52_16_12 : decode jdk_52_method_16_code 12 = .ok (.istore 4, 2) := by decide +kernel
theorem d_j52_16_14 : decode jdk_52_method_16_code 14 = .ok (.iload 4, 2) := by decide +kernel
theorem d_j52_16_16 : decode jdk_52_method_16_code 16 = .ok (.iload_n 2, 1) := by decide +kernel
theorem d_j52_16_17 : decode jdk_52_method_16_code 17 = .ok (.if_icmp .eq 40, 3) := by decide +kernel
theorem d_j52_16_57 : decode jdk_52_method_16_code 57 = .ok (.aload_n 3, 1) := by decide +kernel
theorem d_j52_16_58 : decode jdk_52_method_16_code 58 = .ok (.areturn, 1) := by decide +kernel
theorem d_j42_149_39 : decode jdk_42_method_149_code 39 = .ok (.astore 5, 2) := by decide +kernel
theorem d_j42_149_41 : decode jdk_42_method_149_code 41 = .ok (.aload_n 0, 1) := by decide +kernel
theorem d_j42_149_42 : decode jdk_42_method_149_code 42 = .ok (.aload 5, 2) := by decide +kernel
theorem d_j42_149_44 : decode jdk_42_method_149_code 44 = .ok (.iload_n 3, 1) := by decide +kernel
theorem d_j42_149_45 : decode jdk_42_method_149_code 45 = .ok (.invokestatic 47, 3) := by decide +kernel
theorem d_j52_15_0 : decode jdk_52_method_15_code 0 = .ok (.iload_n 1, 1) := by decide +kernel
theorem d_j52_15_1 : decode jdk_52_method_15_code 1 = .ok (.aload_n 0, 1) := by decide +kernel
theorem d_j52_15_2 : decode jdk_52_method_15_code 2 = .ok (.arraylength, 1) := by decide +kernel
theorem d_j52_15_3 : decode jdk_52_method_15_code 3 = .ok (.isub, 1) := by decide +kernel
theorem d_j52_15_4 : decode jdk_52_method_15_code 4 = .ok (.bipush 31, 2) := by decide +kernel
theorem d_j52_15_6 : decode jdk_52_method_15_code 6 = .ok (.iushr, 1) := by decide +kernel
theorem d_j52_15_7 : decode jdk_52_method_15_code 7 = .ok (.i2b, 1) := by decide +kernel
theorem d_j52_15_8 : decode jdk_52_method_15_code 8 = .ok (.ireturn, 1) := by decide +kernel
theorem d_j42_149_48 : decode jdk_42_method_149_code 48 = .ok (.putfield 15, 3) := by decide +kernel
theorem d_j42_149_51 : decode jdk_42_method_149_code 51 = .ok (.aload_n 0, 1) := by decide +kernel
theorem d_j42_149_52 : decode jdk_42_method_149_code 52 = .ok (.aload 5, 2) := by decide +kernel
theorem d_j42_149_54 : decode jdk_42_method_149_code 54 = .ok (.putfield 9, 3) := by decide +kernel
theorem d_j42_149_57 : decode jdk_42_method_149_code 57 = .ok (.return_, 1) := by decide +kernel
theorem d_j42_3_9 : decode jdk_42_method_3_code 9 = .ok (.return_, 1) := by decide +kernel
theorem d_j42_139_0 : decode jdk_42_method_139_code 0 = .ok (.getstatic 38, 3) := by decide +kernel
theorem d_j42_139_3 : decode jdk_42_method_139_code 3 = .ok (.ifCond .eq 23, 3) := by decide +kernel
theorem d_j42_139_6 : decode jdk_42_method_139_code 6 = .ok (.iload_n 0, 1) := by decide +kernel
theorem d_j42_139_7 : decode jdk_42_method_139_code 7 = .ok (.invokestatic 1015, 3) := by decide +kernel
theorem d_j43_3_0 : decode jdk_43_method_3_code 0 = .ok (.iload_n 0, 1) := by decide +kernel
theorem d_j43_3_1 : decode jdk_43_method_3_code 1 = .ok (.sipush 255, 3) := by decide +kernel
theorem d_j43_3_4 : decode jdk_43_method_3_code 4 = .ok (.if_icmp .gt 7, 3) := by decide +kernel
theorem d_j43_3_7 : decode jdk_43_method_3_code 7 = .ok (.iconst 1, 1) := by decide +kernel
theorem d_j43_3_8 : decode jdk_43_method_3_code 8 = .ok (.goto 4, 3) := by decide +kernel
theorem d_j43_3_12 : decode jdk_43_method_3_code 12 = .ok (.ireturn, 1) := by decide +kernel
theorem d_j42_139_10 : decode jdk_42_method_139_code 10 = .ok (.ifCond .eq 16, 3) := by decide +kernel
theorem d_j42_139_13 : decode jdk_42_method_139_code 13 = .ok (.new 10, 3) := by decide +kernel
theorem d_j42_139_16 : decode jdk_42_method_139_code 16 = .ok (.dup, 1) := by decide +kernel
theorem d_j42_139_17 : decode jdk_42_method_139_code 17 = .ok (.iload_n 0, 1) := by decide +kernel
theorem d_j42_139_18 : decode jdk_42_method_139_code 18 = .ok (.invokestatic 1018, 3) := by decide +kernel
theorem d_j43_46_0 : decode jdk_43_method_46_code 0 = .ok (.iconst 1, 1) := by decide +kernel
theorem d_j43_46_1 : decode jdk_43_method_46_code 1 = .ok (.newarray .byte, 2) := by decide +kernel
theorem d_j43_46_3 : decode jdk_43_method_46_code 3 = .ok (.dup, 1) := by decide +kernel
theorem d_j43_46_4 : decode jdk_43_method_46_code 4 = .ok (.iconst 0, 1) := by decide +kernel
theorem d_j43_46_5 : decode jdk_43_method_46_code 5 = .ok (.iload_n 0, 1) := by decide +kernel
theorem d_j43_46_6 : decode jdk_43_method_46_code 6 = .ok (.i2b, 1) := by decide +kernel
theorem d_j43_46_7 : decode jdk_43_method_46_code 7 = .ok (.bastore, 1) := by decide +kernel
theorem d_j43_46_8 : decode jdk_43_method_46_code 8 = .ok (.areturn, 1) := by decide +kernel
theorem d_j42_139_21 : decode jdk_42_method_139_code 21 = .ok (.iconst 0, 1) := by decide +kernel
theorem d_j42_139_22 : decode jdk_42_method_139_code 22 = .ok (.invokespecial 209, 3) := by decide +kernel
theorem d_j42_151_0 : decode jdk_42_method_151_code 0 = .ok (.aload_n 0, 1) := by decide +kernel
theorem d_j42_151_1 : decode jdk_42_method_151_code 1 = .ok (.invokespecial 1, 3) := by decide +kernel
theorem d_j42_151_4 : decode jdk_42_method_151_code 4 = .ok (.aload_n 0, 1) := by decide +kernel
theorem d_j42_151_5 : decode jdk_42_method_151_code 5 = .ok (.aload_n 1, 1) := by decide +kernel
theorem d_j42_151_6 : decode jdk_42_method_151_code 6 = .ok (.putfield 9, 3) := by decide +kernel
theorem d_j42_151_9 : decode jdk_42_method_151_code 9 = .ok (.aload_n 0, 1) := by decide +kernel
theorem d_j42_151_10 : decode jdk_42_method_151_code 10 = .ok (.iload_n 2, 1) := by decide +kernel
theorem d_j42_151_11 : decode jdk_42_method_151_code 11 = .ok (.putfield 15, 3) := by decide +kernel
theorem d_j42_151_14 : decode jdk_42_method_151_code 14 = .ok (.return_, 1) := by decide +kernel
theorem d_j42_139_25 : decode jdk_42_method_139_code 25 = .ok (.areturn, 1) := by decide +kernel
theorem d_j42_149_8 : decode jdk_42_method_149_code 8 = .ok (.aload_n 0, 1) := by decide +kernel
theorem d_j42_149_9 : decode jdk_42_method_149_code 9 = .ok (.ldc 7, 2) := by decide +kernel
theorem d_j42_149_11 : decode jdk_42_method_149_code 11 = .ok (.getfield 9, 3) := by decide +kernel
theorem d_j42_149_14 : decode jdk_42_method_149_code 14 = .ok (.putfield 9, 3) := by decide +kernel
theorem d_j42_149_17 : decode jdk_42_method_149_code 17 = .ok (.aload_n 0, 1) := by decide +kernel
theorem d_j42_149_18 : decode jdk_42_method_149_code 18 = .ok (.ldc 7, 2) := by decide +kernel
theorem d_j42_149_20 : decode jdk_42_method_149_code 20 = .ok (.getfield 15, 3) := by decide +kernel
theorem d_j42_149_23 : decode jdk_42_method_149_code 23 = .ok (.putfield 15, 3) := by decide +kernel
theorem d_j42_149_26 : decode jdk_42_method_149_code 26 = .ok (.return_, 1) := by decide +kernel
theorem d_g19_3_0 : decode prog_19_method_3_code 0 = .ok (.new 8, 3) := by decide +kernel
theorem d_g19_3_3 : decode prog_19_method_3_code 3 = .ok (.dup, 1) := by decide +kernel
theorem d_g19_3_4 : decode prog_19_method_3_code 4 = .ok (.aload_n 0, 1) := by decide +kernel
theorem d_g19_3_5 : decode prog_19_method_3_code 5 = .ok (.bipush 64, 2) := by decide +kernel
theorem d_g19_3_7 : decode prog_19_method_3_code 7 = .ok (.iconst 1, 1) := by decide +kernel
theorem d_g19_3_8 : decode prog_19_method_3_code 8 = .ok (.invokespecial 21, 3) := by decide +kernel
theorem d_g19_2_0 : decode prog_19_method_2_code 0 = .ok (.aload_n 0, 1) := by decide +kernel
theorem d_g19_2_1 : decode prog_19_method_2_code 1 = .ok (.invokespecial 1, 3) := by decide +kernel
theorem d_j30_1_0 : decode jdk_30_method_1_code 0 = .ok (.aload_n 0, 1) := by decide +kernel
theorem d_j30_1_1 : decode jdk_30_method_1_code 1 = .ok (.invokespecial 1, 3) := by decide +kernel
theorem d_j30_1_4 : decode jdk_30_method_1_code 4 = .ok (.return_, 1) := by decide +kernel
theorem d_g19_2_4 : decode prog_19_method_2_code 4 = .ok (.aload_n 0, 1) := by decide +kernel
theorem d_g19_2_5 : decode prog_19_method_2_code 5 = .ok (.aload_n 1, 1) := by decide +kernel
theorem d_g19_2_6 : decode prog_19_method_2_code 6 = .ok (.putfield 7, 3) := by decide +kernel
theorem d_g19_2_9 : decode prog_19_method_2_code 9 = .ok (.aload_n 0, 1) := by decide +kernel
theorem d_g19_2_10 : decode prog_19_method_2_code 10 = .ok (.iload_n 2, 1) := by decide +kernel
theorem d_g19_2_11 : decode prog_19_method_2_code 11 = .ok (.putfield 13, 3) := by decide +kernel
theorem d_g19_2_14 : decode prog_19_method_2_code 14 = .ok (.aload_n 0, 1) := by decide +kernel
theorem d_g19_2_15 : decode prog_19_method_2_code 15 = .ok (.iload_n 3, 1) := by decide +kernel
theorem d_g19_2_16 : decode prog_19_method_2_code 16 = .ok (.putfield 17, 3) := by decide +kernel
theorem d_g19_2_19 : decode prog_19_method_2_code 19 = .ok (.return_, 1) := by decide +kernel
theorem d_g19_3_11 : decode prog_19_method_3_code 11 = .ok (.areturn, 1) := by decide +kernel
theorem d_g19_7_0 : decode prog_19_method_7_code 0 = .ok (.aload_n 0, 1) := by decide +kernel
theorem d_g19_7_1 : decode prog_19_method_7_code 1 = .ok (.getfield 7, 3) := by decide +kernel
theorem d_g19_7_4 : decode prog_19_method_7_code 4 = .ok (.areturn, 1) := by decide +kernel
theorem d_g19_8_0 : decode prog_19_method_8_code 0 = .ok (.aload_n 0, 1) := by decide +kernel
theorem d_g19_8_1 : decode prog_19_method_8_code 1 = .ok (.getfield 13, 3) := by decide +kernel
theorem d_g19_8_4 : decode prog_19_method_8_code 4 = .ok (.ireturn, 1) := by decide +kernel
theorem d_g19_9_0 : decode prog_19_method_9_code 0 = .ok (.aload_n 0, 1) := by decide +kernel
theorem d_g19_9_1 : decode prog_19_method_9_code 1 = .ok (.getfield 17, 3) := by decide +kernel
theorem d_g19_9_4 : decode prog_19_method_9_code 4 = .ok (.ireturn, 1) := by decide +kernel
theorem d_j42_66_0 : decode jdk_42_method_66_code 0 = .ok (.aload_n 0, 1) := by decide +kernel
theorem d_j42_66_1 : decode jdk_42_method_66_code 1 = .ok (.aload_n 1, 1) := by decide +kernel
theorem d_j42_66_2 : decode jdk_42_method_66_code 2 = .ok (.if_acmp .ne 5, 3) := by decide +kernel
theorem d_j42_66_5 : decode jdk_42_method_66_code 5 = .ok (.iconst 1, 1) := by decide +kernel
theorem d_j42_66_6 : decode jdk_42_method_66_code 6 = .ok (.ireturn, 1) := by decide +kernel
def Q_compress_4 (Z : State) (a2 : Addr) (i1 : Int32) (i2 : Int32) (i3 : Int32) (c2 : ClassId) (h0 : Heap) (v : Option Value) (h : Heap) : Prop := v = some (.int (3 : Int32)) ∧ Keep h0 h [a2] ∧ Ar Z h a2 c2 .byte [(.int (cB8 i1)), (.int (cB8 i2)), (.int (cB8 i3))] ∧ Exa Z h a2 "[B"
def R_compress_4 : Room := { frames := 0, cells := 0, slots := 0, locals := 0 }
theorem rm_compress_4 {w : Bool} {Z : State} {a0 : Array Value} (hw : ∀ d ∈ tables_1, d.before a0 Z = true) (Ts : List String) (a1 : Addr) (a2 : Addr) (i1 : Int32) (i2 : Int32) (i3 : Int32) (c1 : ClassId) (c2 : ClassId) (h0 : Heap) (f : Nat) (Zf : Z.heap.size ≤ f) (Z0 : f ≤ h0.size) (A_a1 : Ar Z h0 a1 c1 .char [(.int i1), (.int i2), (.int i3)]) (A_a2 : Ar Z h0 a2 c2 .byte [(.int (0 : Int32)), (.int (0 : Int32)), (.int (0 : Int32))]) (g_a2 : f ≤ a2) (E_a2 : Exa Z h0 a2 "[B") (E_a1 : Exa Z h0 a1 "[C") (r_i1 : 0 ≤ i1.toInt ∧ i1.toInt ≤ 255) (r_i2 : 0 ≤ i2.toInt ∧ i2.toInt ≤ 255) (r_i3 : 0 ≤ i3.toInt ∧ i3.toInt ≤ 255) :
    Con w [] Z (⟨"java/lang/StringUTF16", "compress", "([CI[BII)I"⟩ : MethodName) jdk_52_method_21_code 7 (some .int) R_compress_4 Ts Ts f #[(.ref a1), (.int (0 : Int32)), (.ref a2), (.int (0 : Int32)), (.int (3 : Int32))] h0 (Q_compress_4 Z a2 i1 i2 i3 c2 h0) := by
  refine con_of f #[.val (.ref a1), .val (.int (0 : Int32)), .val (.ref a2), .val (.int (0 : Int32)), .val (.int (3 : Int32)), .unset, .unset] (plainFor_of_name pn_0) (fun m => by first | rfl | (simp [entryFrame, mkF, argsToLocals, Value.category]; done)) Zf ?_
  intro C H hX0
  refine r_iconst H 1 (0 : Int32) d_j52_21_0 (by decide) rfl ?_
  refine r_istore H 3 #[.val (.ref a1), .val (.int (0 : Int32)), .val (.ref a2), .val (.int (0 : Int32)), .val (.int (3 : Int32)), .val (.int (0 : Int32)), .unset] d_j52_21_1 rfl rfl ?_
  refine r_iload H 5 d_j52_21_3 rfl rfl ?_
  refine r_iload H 7 d_j52_21_5 rfl rfl ?_
  refine r_icmpgeF H 10 d_j52_21_7 rfl (by decide) ?_
  refine r_aloadN H 11 d_j52_21_10 rfl rfl rfl ?_
  refine r_iloadN H 12 d_j52_21_11 rfl rfl ?_
  refine r_caload H 13 i1 d_j52_21_12 A_a1 (by decide) rfl rfl ?_
  refine r_istore H 15 #[.val (.ref a1), .val (.int (0 : Int32)), .val (.ref a2), .val (.int (0 : Int32)), .val (.int (3 : Int32)), .val (.int (0 : Int32)), .val (.int i1)] d_j52_21_13 rfl rfl ?_
  refine r_iload H 17 d_j52_21_15 rfl rfl ?_
  refine r_sipush H 20 (255 : Int32) d_j52_21_17 (by decide) rfl ?_
  refine r_icmpleT H 26 d_j52_21_20 (by decide) (by decide) (by have := r_i1; have : (255 : Int32).toInt = 255 := (by decide); simp only [Int32.lt_iff_toInt_lt, ← Int32.toInt_inj]; omega) ?_
  refine r_aloadN H 27 d_j52_21_26 rfl rfl rfl ?_
  refine r_iloadN H 28 d_j52_21_27 rfl rfl ?_
  refine r_iload H 30 d_j52_21_28 rfl rfl ?_
  obtain ⟨p1, ep1, rp1⟩ : ∃ p : Int32, (i1.toInt8.toInt32) = p ∧ -128 ≤ p.toInt ∧ p.toInt ≤ 127 := ⟨_, rfl, (by have h := c_i2b i1; omega)⟩
  refine r_i2b H 31 p1 d_j52_21_30 ep1 rfl ?_
  refine r_bastore H 32 p1 d_j52_21_31 A_a2 (by decide) (Nat.le_of_ble_eq_true rfl) g_a2 (nar_byte_id (by have := rp1; omega)) rfl ?_
  intro h2 K2 A2
  change Ar Z h2 a2 c2 .byte [(.int p1), (.int (0 : Int32)), (.int (0 : Int32))] at A2
  refine r_iinc H 35 #[.val (.ref a1), .val (.int (1 : Int32)), .val (.ref a2), .val (.int (0 : Int32)), .val (.int (3 : Int32)), .val (.int (0 : Int32)), .val (.int i1)] (1 : Int32) d_j52_21_32 rfl (by decide) rfl rfl ?_
  refine r_iinc H 38 #[.val (.ref a1), .val (.int (1 : Int32)), .val (.ref a2), .val (.int (1 : Int32)), .val (.int (3 : Int32)), .val (.int (0 : Int32)), .val (.int i1)] (1 : Int32) d_j52_21_35 rfl (by decide) rfl rfl ?_
  refine r_iinc H 41 #[.val (.ref a1), .val (.int (1 : Int32)), .val (.ref a2), .val (.int (1 : Int32)), .val (.int (3 : Int32)), .val (.int (1 : Int32)), .val (.int i1)] (1 : Int32) d_j52_21_38 rfl (by decide) rfl rfl ?_
  refine r_goto H 3 d_j52_21_41 (by decide) (by decide) ?_
  refine r_iload H 5 d_j52_21_3 rfl rfl ?_
  refine r_iload H 7 d_j52_21_5 rfl rfl ?_
  refine r_icmpgeF H 10 d_j52_21_7 rfl (by decide) ?_
  refine r_aloadN H 11 d_j52_21_10 rfl rfl rfl ?_
  refine r_iloadN H 12 d_j52_21_11 rfl rfl ?_
  have q3 := (E_a1.keep K2)
  have q4 := (E_a2.keep K2)
  have q5 := (A_a1.keep K2 (ninS (ne_exa q3 q4 (by decide)) nin0))
  refine r_caload H 13 i2 d_j52_21_12 q5 (by decide) rfl rfl ?_
  refine r_istore H 15 #[.val (.ref a1), .val (.int (1 : Int32)), .val (.ref a2), .val (.int (1 : Int32)), .val (.int (3 : Int32)), .val (.int (1 : Int32)), .val (.int i2)] d_j52_21_13 rfl rfl ?_
  refine r_iload H 17 d_j52_21_15 rfl rfl ?_
  refine r_sipush H 20 (255 : Int32) d_j52_21_17 (by decide) rfl ?_
  refine r_icmpleT H 26 d_j52_21_20 (by decide) (by decide) (by have := r_i2; have : (255 : Int32).toInt = 255 := (by decide); simp only [Int32.lt_iff_toInt_lt, ← Int32.toInt_inj]; omega) ?_
  refine r_aloadN H 27 d_j52_21_26 rfl rfl rfl ?_
  refine r_iloadN H 28 d_j52_21_27 rfl rfl ?_
  refine r_iload H 30 d_j52_21_28 rfl rfl ?_
  obtain ⟨p6, ep6, rp6⟩ : ∃ p : Int32, (i2.toInt8.toInt32) = p ∧ -128 ≤ p.toInt ∧ p.toInt ≤ 127 := ⟨_, rfl, (by have h := c_i2b i2; omega)⟩
  refine r_i2b H 31 p6 d_j52_21_30 ep6 rfl ?_
  refine r_bastore H 32 p6 d_j52_21_31 A2 (by decide) (Nat.le_of_ble_eq_true rfl) g_a2 (nar_byte_id (by have := rp6; omega)) rfl ?_
  intro h7 K7 A7
  change Ar Z h7 a2 c2 .byte [(.int p1), (.int p6), (.int (0 : Int32))] at A7
  refine r_iinc H 35 #[.val (.ref a1), .val (.int (2 : Int32)), .val (.ref a2), .val (.int (1 : Int32)), .val (.int (3 : Int32)), .val (.int (1 : Int32)), .val (.int i2)] (2 : Int32) d_j52_21_32 rfl (by decide) rfl rfl ?_
  refine r_iinc H 38 #[.val (.ref a1), .val (.int (2 : Int32)), .val (.ref a2), .val (.int (2 : Int32)), .val (.int (3 : Int32)), .val (.int (1 : Int32)), .val (.int i2)] (2 : Int32) d_j52_21_35 rfl (by decide) rfl rfl ?_
  refine r_iinc H 41 #[.val (.ref a1), .val (.int (2 : Int32)), .val (.ref a2), .val (.int (2 : Int32)), .val (.int (3 : Int32)), .val (.int (2 : Int32)), .val (.int i2)] (2 : Int32) d_j52_21_38 rfl (by decide) rfl rfl ?_
  refine r_goto H 3 d_j52_21_41 (by decide) (by decide) ?_
  refine r_iload H 5 d_j52_21_3 rfl rfl ?_
  refine r_iload H 7 d_j52_21_5 rfl rfl ?_
  refine r_icmpgeF H 10 d_j52_21_7 rfl (by decide) ?_
  refine r_aloadN H 11 d_j52_21_10 rfl rfl rfl ?_
  refine r_iloadN H 12 d_j52_21_11 rfl rfl ?_
  have q8 := (q3.keep K7)
  have q9 := (q4.keep K7)
  have q10 := (q5.keep K7 (ninS (ne_exa q8 q9 (by decide)) nin0))
  refine r_caload H 13 i3 d_j52_21_12 q10 (by decide) rfl rfl ?_
  refine r_istore H 15 #[.val (.ref a1), .val (.int (2 : Int32)), .val (.ref a2), .val (.int (2 : Int32)), .val (.int (3 : Int32)), .val (.int (2 : Int32)), .val (.int i3)] d_j52_21_13 rfl rfl ?_
  refine r_iload H 17 d_j52_21_15 rfl rfl ?_
  refine r_sipush H 20 (255 : Int32) d_j52_21_17 (by decide) rfl ?_
  refine r_icmpleT H 26 d_j52_21_20 (by decide) (by decide) (by have := r_i3; have : (255 : Int32).toInt = 255 := (by decide); simp only [Int32.lt_iff_toInt_lt, ← Int32.toInt_inj]; omega) ?_
  refine r_aloadN H 27 d_j52_21_26 rfl rfl rfl ?_
  refine r_iloadN H 28 d_j52_21_27 rfl rfl ?_
  refine r_iload H 30 d_j52_21_28 rfl rfl ?_
  obtain ⟨p11, ep11, rp11⟩ : ∃ p : Int32, (i3.toInt8.toInt32) = p ∧ -128 ≤ p.toInt ∧ p.toInt ≤ 127 := ⟨_, rfl, (by have h := c_i2b i3; omega)⟩
  refine r_i2b H 31 p11 d_j52_21_30 ep11 rfl ?_
  refine r_bastore H 32 p11 d_j52_21_31 A7 (by decide) (Nat.le_of_ble_eq_true rfl) g_a2 (nar_byte_id (by have := rp11; omega)) rfl ?_
  intro h12 K12 A12
  change Ar Z h12 a2 c2 .byte [(.int p1), (.int p6), (.int p11)] at A12
  refine r_iinc H 35 #[.val (.ref a1), .val (.int (3 : Int32)), .val (.ref a2), .val (.int (2 : Int32)), .val (.int (3 : Int32)), .val (.int (2 : Int32)), .val (.int i3)] (3 : Int32) d_j52_21_32 rfl (by decide) rfl rfl ?_
  refine r_iinc H 38 #[.val (.ref a1), .val (.int (3 : Int32)), .val (.ref a2), .val (.int (3 : Int32)), .val (.int (3 : Int32)), .val (.int (2 : Int32)), .val (.int i3)] (3 : Int32) d_j52_21_35 rfl (by decide) rfl rfl ?_
  refine r_iinc H 41 #[.val (.ref a1), .val (.int (3 : Int32)), .val (.ref a2), .val (.int (3 : Int32)), .val (.int (3 : Int32)), .val (.int (3 : Int32)), .val (.int i3)] (3 : Int32) d_j52_21_38 rfl (by decide) rfl rfl ?_
  refine r_goto H 3 d_j52_21_41 (by decide) (by decide) ?_
  refine r_iload H 5 d_j52_21_3 rfl rfl ?_
  refine r_iload H 7 d_j52_21_5 rfl rfl ?_
  refine r_icmpgeT H 44 d_j52_21_7 (by decide) (by decide) (by decide) ?_
  refine r_iload H 46 d_j52_21_44 rfl rfl ?_
  have k13 : Keep h0 h2 [a2] := Keep.trans (Keep.refl h0 [a2]) K2 (allS (Or.inl (List.mem_of_getElem? (i := 0) rfl)) all0)
  have k14 : Keep h0 h7 [a2] := Keep.trans k13 K7 (allS (Or.inl (List.mem_of_getElem? (i := 0) rfl)) all0)
  have k15 : Keep h0 h12 [a2] := Keep.trans k14 K12 (allS (Or.inl (List.mem_of_getElem? (i := 0) rfl)) all0)
  have q16 := (q9.keep K12)
  subst ep1 ep6 ep11
  exact r_ireturn H d_j52_21_46 (by decide) (by decide) (Nat.le_refl _) (fun _ t => t) (⟨rfl, k15, A12, q16⟩)
def Q_compress_3 (Z : State) (i1 : Int32) (i2 : Int32) (i3 : Int32) (h0 : Heap) (v : Option Value) (h : Heap) : Prop := ∃ (b1 : Addr) (kc1 : ClassId), v = some (.ref b1) ∧ Keep h0 h [] ∧ h0.size ≤ b1 ∧ Ar Z h b1 kc1 .byte [(.int (cB8 i1)), (.int (cB8 i2)), (.int (cB8 i3))] ∧ Exa Z h b1 "[B"
def R_compress_3 : Room := { frames := 1, cells := 1, slots := 3, locals := 18 }
theorem rm_compress_3 {w : Bool} {Z : State} {a0 : Array Value} (hw : ∀ d ∈ tables_1, d.before a0 Z = true) (Ts : List String) (a1 : Addr) (i1 : Int32) (i2 : Int32) (i3 : Int32) (c1 : ClassId) (h0 : Heap) (f : Nat) (Zf : Z.heap.size ≤ f) (Z0 : f ≤ h0.size) (A_a1 : Ar Z h0 a1 c1 .char [(.int i1), (.int i2), (.int i3)]) (E_a1 : Exa Z h0 a1 "[C") (r_i1 : 0 ≤ i1.toInt ∧ i1.toInt ≤ 255) (r_i2 : 0 ≤ i2.toInt ∧ i2.toInt ≤ 255) (r_i3 : 0 ≤ i3.toInt ∧ i3.toInt ≤ 255) :
    Con w [] Z (⟨"java/lang/StringUTF16", "compress", "([CII)[B"⟩ : MethodName) jdk_52_method_16_code 6 (some (.array .byte)) R_compress_3 Ts Ts f #[(.ref a1), (.int (0 : Int32)), (.int (3 : Int32))] h0 (Q_compress_3 Z i1 i2 i3 h0) := by
  refine con_of f #[.val (.ref a1), .val (.int (0 : Int32)), .val (.int (3 : Int32)), .unset, .unset, .unset] (plainFor_of_name pn_0) (fun m => by first | rfl | (simp [entryFrame, mkF, argsToLocals, Value.category]; done)) Zf ?_
  intro C H hX0
  refine r_iloadN H 1 d_j52_16_0 rfl rfl ?_
  refine r_newP H 3 "[B" 3 d_j52_16_1 (tw14 hw) rfl (by decide) (by decide) (by decide) (by decide) (by decide) rfl ?_
  intro h1 b1 kc1 g1 l1 K1 E1 A1
  change Ar Z h1 b1 kc1 .byte [(.int (0 : Int32)), (.int (0 : Int32)), (.int (0 : Int32))] at A1
  refine r_astoreN H 4 #[.val (.ref a1), .val (.int (0 : Int32)), .val (.int (3 : Int32)), .val (.ref b1), .unset, .unset] d_j52_16_3 rfl rfl rfl ?_
  refine r_aloadN H 5 d_j52_16_4 rfl rfl rfl ?_
  refine r_iloadN H 6 d_j52_16_5 rfl rfl ?_
  refine r_aloadN H 7 d_j52_16_6 rfl rfl rfl ?_
  refine r_iconst H 8 (0 : Int32) d_j52_16_7 (by decide) rfl ?_
  refine r_iloadN H 9 d_j52_16_8 rfl rfl ?_
  have q2 := (A_a1.keep K1 nin0)
  have q3 := (E_a1.keep K1)
  refine r_static H 12 d_j52_16_9 (tw79 hw) (tw80 hw) (tw77 hw) (tw81 hw) (by decide) (lenOf pd_0 rfl) (rm_compress_4 hw Ts a1 b1 i1 i2 i3 c1 kc1 h1 f Zf (Nat.le_trans Z0 K1.1) q2 A1 (Nat.le_trans Z0 (Nat.le_of_eq g1.symm)) E1 q3 r_i1 r_i2 r_i3) (argsL := [(.ref a1), (.int (0 : Int32)), (.ref b1), (.int (0 : Int32)), (.int (3 : Int32))]) (rest := []) rfl (W := 0) (Nat.le_of_eq rfl) rfl (by decide) (by decide) (by decide) (by decide) (Nat.le_refl _) rfl ?_
  rintro _ hh7 ⟨rfl, K4, q5, q6⟩
  refine r_istore H 14 #[.val (.ref a1), .val (.int (0 : Int32)), .val (.int (3 : Int32)), .val (.ref b1), .val (.int (3 : Int32)), .unset] d_j52_16_12 rfl rfl ?_
  refine r_iload H 16 d_j52_16_14 rfl rfl ?_
  refine r_iloadN H 17 d_j52_16_16 rfl rfl ?_
  refine r_icmpeqT H 57 d_j52_16_17 (by decide) (by decide) (by decide) ?_
  refine r_aloadN H 58 d_j52_16_57 rfl rfl rfl ?_
  have k8 : Keep h0 h1 [] := Keep.trans (Keep.refl h0 []) K1 all0
  have k9 : Keep h0 hh7 [] := Keep.trans k8 K4 (allS (Or.inr (Nat.le_trans (Nat.le_refl _) (Nat.le_of_eq g1.symm))) all0)
  exact r_areturn H rfl rfl d_j52_16_58 (by decide) (by decide) (Nat.le_refl _) (fun _ t => t) (⟨b1, kc1, rfl, k9, (Nat.le_trans (Nat.le_refl _) (Nat.le_of_eq g1.symm)), q5, q6⟩)
def Q_coderFromArrayLen_5 (Z : State) (h0 : Heap) (v : Option Value) (h : Heap) : Prop := v = some (.int (0 : Int32)) ∧ h0 = h
def R_coderFromArrayLen_5 : Room := { frames := 0, cells := 0, slots := 0, locals := 0 }
theorem rm_coderFromArrayLen_5 {w : Bool} {Z : State} {a0 : Array Value} (hw : ∀ d ∈ tables_1, d.before a0 Z = true) (Ts : List String) (a1 : Addr) (i1 : Int32) (i2 : Int32) (i3 : Int32) (c1 : ClassId) (h0 : Heap) (f : Nat) (Zf : Z.heap.size ≤ f) (Z0 : f ≤ h0.size) (A_a1 : Ar Z h0 a1 c1 .byte [(.int (cB8 i1)), (.int (cB8 i2)), (.int (cB8 i3))]) :
    Con w [] Z (⟨"java/lang/StringUTF16", "coderFromArrayLen", "([BI)B"⟩ : MethodName) jdk_52_method_15_code 2 (some .byte) R_coderFromArrayLen_5 Ts Ts f #[(.ref a1), (.int (3 : Int32))] h0 (Q_coderFromArrayLen_5 Z h0) := by
  refine con_of f #[.val (.ref a1), .val (.int (3 : Int32))] (plainFor_of_name pn_0) (fun m => by first | rfl | (simp [entryFrame, mkF, argsToLocals, Value.category]; done)) Zf ?_
  intro C H hX0
  refine r_iloadN H 1 d_j52_15_0 rfl rfl ?_
  refine r_aloadN H 2 d_j52_15_1 rfl rfl rfl ?_
  refine r_alen H 3 (3 : Int32) d_j52_15_2 A_a1 rfl rfl ?_
  refine r_isub H 4 (0 : Int32) d_j52_15_3 (by decide) rfl ?_
  refine r_bipush H 6 (31 : Int32) d_j52_15_4 (by decide) rfl ?_
  refine r_iushr H 7 (0 : Int32) d_j52_15_6 (by decide) rfl ?_
  refine r_i2b H 8 (0 : Int32) d_j52_15_7 (by decide) rfl ?_
  exact r_nreturn (0 : Int32) H (by simp) d_j52_15_8 (by decide) (by decide) (by decide) (Nat.le_refl _) (fun _ t => t) (⟨rfl, rfl⟩)
def Q_init_2 (Z : State) (a1 : Addr) (i1 : Int32) (i2 : Int32) (i3 : Int32) (h0 : Heap) (v : Option Value) (h : Heap) : Prop := ∃ (b1 : Addr) (kc2 : ClassId), v = none ∧ Keep h0 h [a1] ∧ h0.size ≤ b1 ∧ Exa Z h a1 "java/lang/String" ∧ Fld Z h a1 "java/lang/String" "coder" "B" (.int (0 : Int32)) ∧ Fld Z h a1 "java/lang/String" "value" "[B" (.ref b1) ∧ Ar Z h b1 kc2 .byte [(.int (cB8 i1)), (.int (cB8 i2)), (.int (cB8 i3))] ∧ Exa Z h b1 "[B"
def R_init_2 : Room := { frames := 2, cells := 1, slots := 3, locals := 35 }
theorem rm_init_2 {w : Bool} {Z : State} {a0 : Array Value} (hw : ∀ d ∈ tables_1, d.before a0 Z = true) (Ts : List String) (a1 : Addr) (a2 : Addr) (i1 : Int32) (i2 : Int32) (i3 : Int32) (c1 : ClassId) (cs : Int32) (h0 : Heap) (f : Nat) (Zf : Z.heap.size ≤ f) (Z0 : f ≤ h0.size) (A_a2 : Ar Z h0 a2 c1 .char [(.int i1), (.int i2), (.int i3)]) (E_a2 : Exa Z h0 a2 "[C") (E_a1 : Exa Z h0 a1 "java/lang/String") (F_coder_a1 : Fld Z h0 a1 "java/lang/String" "coder" "B" (.int (0 : Int32))) (g_a1 : f ≤ a1) (F_value_a1 : Fld Z h0 a1 "java/lang/String" "value" "[B" .null) (r_i1 : 0 ≤ i1.toInt ∧ i1.toInt ≤ 255) (r_i2 : 0 ≤ i2.toInt ∧ i2.toInt ≤ 255) (r_i3 : 0 ≤ i3.toInt ∧ i3.toInt ≤ 255) (S_cs : Sta Z Z.heap "java/lang/String" "COMPACT_STRINGS" "Z" (.int cs)) (hcs : ¬ cs = 0) :
    Con w [] Z (⟨"java/lang/String", "<init>", "([CIILjava/lang/Void;)V"⟩ : MethodName) jdk_42_method_149_code 6 none R_init_2 Ts Ts f #[(.ref a1), (.ref a2), (.int (0 : Int32)), (.int (3 : Int32)), .null] h0 (Q_init_2 Z a1 i1 i2 i3 h0) := by
  refine con_of f #[.val (.ref a1), .val (.ref a2), .val (.int (0 : Int32)), .val (.int (3 : Int32)), .val .null, .unset] (plainFor_of_name pn_1) (fun m => by first | rfl | (simp [entryFrame, mkF, argsToLocals, Value.category]; done)) Zf ?_
  intro C H hX0
  refine r_aloadN H 1 d_j42_149_0 rfl rfl rfl ?_
  refine r_initO H 4 d_j42_149_1 (tw19 hw) (tw20 hw) (tw21 hw) rfl (by decide) (W := 0) (Nat.le_of_eq rfl) (by decide) rfl ?_
  refine r_iloadN H 5 d_j42_149_4 rfl rfl ?_
  refine r_ifneT H 27 d_j42_149_5 (by decide) (by decide) (by decide) ?_
  refine r_gets H 30 d_j42_149_27 (tw4 hw) Via.refl S_cs rfl ?_
  refine r_ifeqF H 33 d_j42_149_30 rfl hcs ?_
  refine r_aloadN H 34 d_j42_149_33 rfl rfl rfl ?_
  refine r_iloadN H 35 d_j42_149_34 rfl rfl ?_
  refine r_iloadN H 36 d_j42_149_35 rfl rfl ?_
  refine r_static H 39 d_j42_149_36 (tw75 hw) (tw76 hw) (tw77 hw) (tw78 hw) (by decide) (lenOf pd_1 rfl) (rm_compress_3 hw Ts a2 i1 i2 i3 c1 h0 f Zf Z0 A_a2 E_a2 r_i1 r_i2 r_i3) (argsL := [(.ref a2), (.int (0 : Int32)), (.int (3 : Int32))]) (rest := []) rfl (W := 0) (Nat.le_of_eq rfl) rfl (by decide) (by decide) (by decide) (by decide) (Nat.le_refl _) rfl ?_
  rintro _ hh7 ⟨b1, kc2, rfl, K3, g4, q5, q6⟩
  refine r_astore H 41 #[.val (.ref a1), .val (.ref a2), .val (.int (0 : Int32)), .val (.int (3 : Int32)), .val .null, .val (.ref b1)] d_j42_149_39 rfl rfl rfl ?_
  refine r_aloadN H 42 d_j42_149_41 rfl rfl rfl ?_
  refine r_aload H 44 d_j42_149_42 rfl rfl rfl ?_
  refine r_iloadN H 45 d_j42_149_44 rfl rfl ?_
  refine r_static H 48 d_j42_149_45 (tw82 hw) (tw83 hw) (tw77 hw) (tw84 hw) (by decide) (lenOf pd_2 rfl) (rm_coderFromArrayLen_5 hw Ts b1 i1 i2 i3 kc2 hh7 f Zf (Nat.le_trans Z0 K3.1) q5) (argsL := [(.ref b1), (.int (3 : Int32))]) (rest := [(.ref a1)]) rfl (W := 1) (Nat.le_of_eq rfl) rfl (by decide) (by decide) (by decide) (by decide) (Nat.le_refl _) rfl ?_
  rintro _ _ ⟨rfl, rfl⟩
  have q9 := (E_a1.keep K3)
  have q10 := (F_coder_a1.keep K3 nin0)
  refine r_putn H 51 (v' := (.int (0 : Int32))) d_j42_149_48 (tw24 hw) Via.refl q10 q9 (Or.inr ⟨(tw25 hw), rfl, rfl⟩) (tw10 hw) (ty := .byte) (by decide) rfl (by decide) g_a1 rfl ?_
  intro h11 W11 K11 E11 F11
  refine r_aloadN H 52 d_j42_149_51 rfl rfl rfl ?_
  refine r_aload H 54 d_j42_149_52 rfl rfl rfl ?_
  have q12 := ((F_value_a1.keep K3 nin0).other W11 (Or.inr (slot_ne (Or.inr (tw23 hw)) (Or.inr (tw25 hw)) (by decide) (t := (.array .byte)) (t' := .byte) (by decide) (by decide))))
  refine r_putf H 57 d_j42_149_54 (tw22 hw) Via.refl q12 E11 (Or.inr ⟨(tw23 hw), rfl, rfl⟩) (tw10 hw) (ty := (.array .byte)) (by decide) rfl rfl g_a1 rfl ?_
  intro h13 W13 K13 E13 F13
  have k14 : Keep h0 hh7 [a1] := Keep.trans (Keep.refl h0 [a1]) K3 all0
  have k15 : Keep h0 h11 [a1] := Keep.trans k14 K11 (allS (Or.inl (List.mem_of_getElem? (i := 0) rfl)) all0)
  have k16 : Keep h0 h13 [a1] := Keep.trans k15 K13 (allS (Or.inl (List.mem_of_getElem? (i := 0) rfl)) all0)
  have q17 := (F11.other W13 (Or.inr (slot_ne (Or.inr (tw25 hw)) (Or.inr (tw23 hw)) (by decide) (t := .byte) (t' := (.array .byte)) (by decide) (by decide))))
  have q18 := ((q5.keep K11 (ninS (Ne.symm (Nat.ne_of_lt (Nat.lt_of_lt_of_le E_a1.lt (Nat.le_trans (Nat.le_refl _) g4)))) nin0)).keep K13 (ninS (Ne.symm (Nat.ne_of_lt (Nat.lt_of_lt_of_le E_a1.lt (Nat.le_trans (Nat.le_refl _) g4)))) nin0))
  have q19 := ((q6.keep K11).keep K13)
  exact r_return H d_j42_149_57 (by decide) (by decide) (Nat.le_refl _) (fun _ t => t) (⟨b1, kc2, rfl, k16, (Nat.le_trans (Nat.le_refl _) g4), E13, q17, F13, q18, q19⟩)
def Q_init_1 (Z : State) (a1 : Addr) (i1 : Int32) (i2 : Int32) (i3 : Int32) (h0 : Heap) (v : Option Value) (h : Heap) : Prop := ∃ (b1 : Addr) (kc2 : ClassId), v = none ∧ Keep h0 h [a1] ∧ h0.size ≤ b1 ∧ Exa Z h a1 "java/lang/String" ∧ Fld Z h a1 "java/lang/String" "coder" "B" (.int (0 : Int32)) ∧ Fld Z h a1 "java/lang/String" "value" "[B" (.ref b1) ∧ Ar Z h b1 kc2 .byte [(.int (cB8 i1)), (.int (cB8 i2)), (.int (cB8 i3))] ∧ Exa Z h b1 "[B"
def R_init_1 : Room := { frames := 3, cells := 1, slots := 3, locals := 52 }
theorem rm_init_1 {w : Bool} {Z : State} {a0 : Array Value} (hw : ∀ d ∈ tables_1, d.before a0 Z = true) (Ts : List String) (a1 : Addr) (a2 : Addr) (i1 : Int32) (i2 : Int32) (i3 : Int32) (c1 : ClassId) (cs : Int32) (h0 : Heap) (f : Nat) (Zf : Z.heap.size ≤ f) (Z0 : f ≤ h0.size) (A_a2 : Ar Z h0 a2 c1 .char [(.int i1), (.int i2), (.int i3)]) (g_a1 : f ≤ a1) (E_a2 : Exa Z h0 a2 "[C") (E_a1 : Exa Z h0 a1 "java/lang/String") (F_coder_a1 : Fld Z h0 a1 "java/lang/String" "coder" "B" (.int (0 : Int32))) (F_value_a1 : Fld Z h0 a1 "java/lang/String" "value" "[B" .null) (r_i1 : 0 ≤ i1.toInt ∧ i1.toInt ≤ 255) (r_i2 : 0 ≤ i2.toInt ∧ i2.toInt ≤ 255) (r_i3 : 0 ≤ i3.toInt ∧ i3.toInt ≤ 255) (S_cs : Sta Z Z.heap "java/lang/String" "COMPACT_STRINGS" "Z" (.int cs)) (hcs : ¬ cs = 0) :
    Con w [] Z (⟨"java/lang/String", "<init>", "([C)V"⟩ : MethodName) jdk_42_method_3_code 2 none R_init_1 Ts Ts f #[(.ref a1), (.ref a2)] h0 (Q_init_1 Z a1 i1 i2 i3 h0) := by
  refine con_of f #[.val (.ref a1), .val (.ref a2)] (plainFor_of_name pn_1) (fun m => by first | rfl | (simp [entryFrame, mkF, argsToLocals, Value.category]; done)) Zf ?_
  intro C H hX0
  refine r_aloadN H 1 d_j42_3_0 rfl rfl rfl ?_
  refine r_aloadN H 2 d_j42_3_1 rfl rfl rfl ?_
  refine r_iconst H 3 (0 : Int32) d_j42_3_2 (by decide) rfl ?_
  refine r_aloadN H 4 d_j42_3_3 rfl rfl rfl ?_
  refine r_alen H 5 (3 : Int32) d_j42_3_4 A_a2 rfl rfl ?_
  refine r_null H 6 d_j42_3_5 rfl ?_
  refine r_special H 9 (a := a1) d_j42_3_6 (tw72 hw) (tw73 hw) (tw2 hw) (tw74 hw) (by decide) rfl (lenOf pd_3 rfl) (rm_init_2 hw Ts a1 a2 i1 i2 i3 c1 cs h0 f Zf Z0 A_a2 E_a2 E_a1 F_coder_a1 g_a1 F_value_a1 r_i1 r_i2 r_i3 S_cs hcs) (argsL := [(.ref a2), (.int (0 : Int32)), (.int (3 : Int32)), .null]) (rest := []) rfl (W := 0) (Nat.le_of_eq rfl) rfl (by decide) (by decide) (by decide) (by decide) (Nat.le_refl _) rfl ?_
  rintro _ hh10 ⟨b1, kc2, rfl, K3, g4, q5, q6, q7, q8, q9⟩
  have k11 : Keep h0 hh10 [a1] := Keep.trans (Keep.refl h0 [a1]) K3 (allS (Or.inl (List.mem_of_getElem? (i := 0) rfl)) all0)
  exact r_return H d_j42_3_9 (by decide) (by decide) (Nat.le_refl _) (fun _ t => t) (⟨b1, kc2, rfl, k11, (Nat.le_trans (Nat.le_refl _) g4), q5, q6, q7, q8, q9⟩)
def Q_canEncode_7 (Z : State) (h0 : Heap) (v : Option Value) (h : Heap) : Prop := v = some (.int (1 : Int32)) ∧ h0 = h
def R_canEncode_7 : Room := { frames := 0, cells := 0, slots := 0, locals := 0 }
theorem rm_canEncode_7 {w : Bool} {Z : State} {a0 : Array Value} (hw : ∀ d ∈ tables_1, d.before a0 Z = true) (Ts : List String) (i1 : Int32) (h0 : Heap) (f : Nat) (Zf : Z.heap.size ≤ f) (Z0 : f ≤ h0.size) (r_i1 : 0 ≤ i1.toInt ∧ i1.toInt ≤ 255) :
    Con w [] Z (⟨"java/lang/StringLatin1", "canEncode", "(C)Z"⟩ : MethodName) jdk_43_method_3_code 1 (some .boolean) R_canEncode_7 Ts Ts f #[(.int i1)] h0 (Q_canEncode_7 Z h0) := by
  refine con_of f #[.val (.int i1)] (plainFor_of_name pn_2) (fun m => by first | rfl | (simp [entryFrame, mkF, argsToLocals, Value.category]; done)) Zf ?_
  intro C H hX0
  refine r_iloadN H 1 d_j43_3_0 rfl rfl ?_
  refine r_sipush H 4 (255 : Int32) d_j43_3_1 (by decide) rfl ?_
  refine r_icmpgtF H 7 d_j43_3_4 rfl (by have := r_i1; have : (255 : Int32).toInt = 255 := (by decide); simp only [Int32.lt_iff_toInt_lt, ← Int32.toInt_inj]; omega) ?_
  refine r_iconst H 8 (1 : Int32) d_j43_3_7 (by decide) rfl ?_
  refine r_goto H 12 d_j43_3_8 (by decide) (by decide) ?_
  exact r_nreturn (1 : Int32) H (by simp) d_j43_3_12 (by decide) (by decide) (by decide) (Nat.le_refl _) (fun _ t => t) (⟨rfl, rfl⟩)
def Q_toBytes_8 (Z : State) (i1 : Int32) (h0 : Heap) (v : Option Value) (h : Heap) : Prop := ∃ (b1 : Addr) (kc1 : ClassId), v = some (.ref b1) ∧ Keep h0 h [] ∧ h0.size ≤ b1 ∧ Ar Z h b1 kc1 .byte [(.int (cB8 i1))] ∧ Exa Z h b1 "[B"
def R_toBytes_8 : Room := { frames := 0, cells := 1, slots := 1, locals := 0 }
theorem rm_toBytes_8 {w : Bool} {Z : State} {a0 : Array Value} (hw : ∀ d ∈ tables_1, d.before a0 Z = true) (Ts : List String) (i1 : Int32) (h0 : Heap) (f : Nat) (Zf : Z.heap.size ≤ f) (Z0 : f ≤ h0.size) :
    Con w [] Z (⟨"java/lang/StringLatin1", "toBytes", "(C)[B"⟩ : MethodName) jdk_43_method_46_code 1 (some (.array .byte)) R_toBytes_8 Ts Ts f #[(.int i1)] h0 (Q_toBytes_8 Z i1 h0) := by
  refine con_of f #[.val (.int i1)] (plainFor_of_name pn_2) (fun m => by first | rfl | (simp [entryFrame, mkF, argsToLocals, Value.category]; done)) Zf ?_
  intro C H hX0
  refine r_iconst H 1 (1 : Int32) d_j43_46_0 (by decide) rfl ?_
  refine r_newP H 3 "[B" 1 d_j43_46_1 (tw14 hw) rfl (by decide) (by decide) (by decide) (by decide) (by decide) rfl ?_
  intro h1 b1 kc1 g1 l1 K1 E1 A1
  change Ar Z h1 b1 kc1 .byte [(.int (0 : Int32))] at A1
  refine r_dup H 4 d_j43_46_3 rfl rfl ?_
  refine r_iconst H 5 (0 : Int32) d_j43_46_4 (by decide) rfl ?_
  refine r_iloadN H 6 d_j43_46_5 rfl rfl ?_
  obtain ⟨p2, ep2, rp2⟩ : ∃ p : Int32, (i1.toInt8.toInt32) = p ∧ -128 ≤ p.toInt ∧ p.toInt ≤ 127 := ⟨_, rfl, (by have h := c_i2b i1; omega)⟩
  refine r_i2b H 7 p2 d_j43_46_6 ep2 rfl ?_
  refine r_bastore H 8 p2 d_j43_46_7 A1 (by decide) (Nat.le_of_ble_eq_true rfl) (Nat.le_trans Z0 (Nat.le_of_eq g1.symm)) (nar_byte_id (by have := rp2; omega)) rfl ?_
  intro h3 K3 A3
  change Ar Z h3 b1 kc1 .byte [(.int p2)] at A3
  have k4 : Keep h0 h1 [] := Keep.trans (Keep.refl h0 []) K1 all0
  have k5 : Keep h0 h3 [] := Keep.trans k4 K3 (allS (Or.inr (Nat.le_trans (Nat.le_refl _) (Nat.le_of_eq g1.symm))) all0)
  have q6 := (E1.keep K3)
  subst ep2
  exact r_areturn H rfl rfl d_j43_46_8 (by decide) (by decide) (Nat.le_refl _) (fun _ t => t) (⟨b1, kc1, rfl, k5, (Nat.le_trans (Nat.le_refl _) (Nat.le_of_eq g1.symm)), A3, q6⟩)
def Q_init_9 (Z : State) (a1 : Addr) (a2 : Addr) (h0 : Heap) (v : Option Value) (h : Heap) : Prop := v = none ∧ Keep h0 h [a1] ∧ Exa Z h a1 "java/lang/String" ∧ Fld Z h a1 "java/lang/String" "coder" "B" (.int (0 : Int32)) ∧ Fld Z h a1 "java/lang/String" "value" "[B" (.ref a2)
def R_init_9 : Room := { frames := 1, cells := 0, slots := 0, locals := 12 }
theorem rm_init_9 {w : Bool} {Z : State} {a0 : Array Value} (hw : ∀ d ∈ tables_1, d.before a0 Z = true) (Ts : List String) (a1 : Addr) (a2 : Addr) (h0 : Heap) (f : Nat) (Zf : Z.heap.size ≤ f) (Z0 : f ≤ h0.size) (E_a1 : Exa Z h0 a1 "java/lang/String") (F_value_a1 : Fld Z h0 a1 "java/lang/String" "value" "[B" .null) (g_a1 : f ≤ a1) (F_coder_a1 : Fld Z h0 a1 "java/lang/String" "coder" "B" (.int (0 : Int32))) :
    Con w [] Z (⟨"java/lang/String", "<init>", "([BB)V"⟩ : MethodName) jdk_42_method_151_code 3 none R_init_9 Ts Ts f #[(.ref a1), (.ref a2), (.int (0 : Int32))] h0 (Q_init_9 Z a1 a2 h0) := by
  refine con_of f #[.val (.ref a1), .val (.ref a2), .val (.int (0 : Int32))] (plainFor_of_name pn_1) (fun m => by first | rfl | (simp [entryFrame, mkF, argsToLocals, Value.category]; done)) Zf ?_
  intro C H hX0
  refine r_aloadN H 1 d_j42_151_0 rfl rfl rfl ?_
  refine r_initO H 4 d_j42_151_1 (tw19 hw) (tw20 hw) (tw21 hw) rfl (by decide) (W := 0) (Nat.le_of_eq rfl) (by decide) rfl ?_
  refine r_aloadN H 5 d_j42_151_4 rfl rfl rfl ?_
  refine r_aloadN H 6 d_j42_151_5 rfl rfl rfl ?_
  refine r_putf H 9 d_j42_151_6 (tw22 hw) Via.refl F_value_a1 E_a1 (Or.inr ⟨(tw23 hw), rfl, rfl⟩) (tw10 hw) (ty := (.array .byte)) (by decide) rfl rfl g_a1 rfl ?_
  intro h1 W1 K1 E1 F1
  refine r_aloadN H 10 d_j42_151_9 rfl rfl rfl ?_
  refine r_iloadN H 11 d_j42_151_10 rfl rfl ?_
  have q2 := (F_coder_a1.other W1 (Or.inr (slot_ne (Or.inr (tw25 hw)) (Or.inr (tw23 hw)) (by decide) (t := .byte) (t' := (.array .byte)) (by decide) (by decide))))
  refine r_putn H 14 (v' := (.int (0 : Int32))) d_j42_151_11 (tw24 hw) Via.refl q2 E1 (Or.inr ⟨(tw25 hw), rfl, rfl⟩) (tw10 hw) (ty := .byte) (by decide) rfl (by decide) g_a1 rfl ?_
  intro h3 W3 K3 E3 F3
  have k4 : Keep h0 h1 [a1] := Keep.trans (Keep.refl h0 [a1]) K1 (allS (Or.inl (List.mem_of_getElem? (i := 0) rfl)) all0)
  have k5 : Keep h0 h3 [a1] := Keep.trans k4 K3 (allS (Or.inl (List.mem_of_getElem? (i := 0) rfl)) all0)
  have q6 := (F1.other W3 (Or.inr (slot_ne (Or.inr (tw23 hw)) (Or.inr (tw25 hw)) (by decide) (t := (.array .byte)) (t' := .byte) (by decide) (by decide))))
  exact r_return H d_j42_151_14 (by decide) (by decide) (Nat.le_refl _) (fun _ t => t) (⟨rfl, k5, E3, F3, q6⟩)
def Q_valueOf_6 (Z : State) (i1 : Int32) (h0 : Heap) (v : Option Value) (h : Heap) : Prop := ∃ (b2 : Addr) (b3 : Addr) (kc4 : ClassId), v = some (.ref b2) ∧ Keep h0 h [] ∧ h0.size ≤ b2 ∧ h0.size ≤ b3 ∧ b2 < b3 ∧ Exa Z h b2 "java/lang/String" ∧ Fld Z h b2 "java/lang/String" "coder" "B" (.int (0 : Int32)) ∧ Fld Z h b2 "java/lang/String" "value" "[B" (.ref b3) ∧ Ar Z h b3 kc4 .byte [(.int (cB8 i1))] ∧ Exa Z h b3 "[B"
def R_valueOf_6 : Room := { frames := 2, cells := 2, slots := 5, locals := 27 }
theorem rm_valueOf_6 {w : Bool} {Z : State} {a0 : Array Value} (hw : ∀ d ∈ tables_1, d.before a0 Z = true) (Ts : List String) (i1 : Int32) (cs : Int32) (h0 : Heap) (f : Nat) (Zf : Z.heap.size ≤ f) (Z0 : f ≤ h0.size) (r_i1 : 0 ≤ i1.toInt ∧ i1.toInt ≤ 255) (S_cs : Sta Z Z.heap "java/lang/String" "COMPACT_STRINGS" "Z" (.int cs)) (hcs : ¬ cs = 0) :
    Con w [] Z (⟨"java/lang/String", "valueOf", "(C)Ljava/lang/String;"⟩ : MethodName) jdk_42_method_139_code 1 (some (.object "java/lang/String")) R_valueOf_6 Ts Ts f #[(.int i1)] h0 (Q_valueOf_6 Z i1 h0) := by
  refine con_of f #[.val (.int i1)] (plainFor_of_name pn_1) (fun m => by first | rfl | (simp [entryFrame, mkF, argsToLocals, Value.category]; done)) Zf ?_
  intro C H hX0
  refine r_gets H 3 d_j42_139_0 (tw4 hw) Via.refl S_cs rfl ?_
  refine r_ifeqF H 6 d_j42_139_3 rfl hcs ?_
  refine r_iloadN H 7 d_j42_139_6 rfl rfl ?_
  refine r_static H 10 d_j42_139_7 (tw5 hw) (tw6 hw) (tw7 hw) (tw8 hw) (by decide) (lenOf pd_5 rfl) (rm_canEncode_7 hw Ts i1 h0 f Zf Z0 r_i1) (argsL := [(.int i1)]) (rest := []) rfl (W := 0) (Nat.le_of_eq rfl) rfl (by decide) (by decide) (by decide) (by decide) (Nat.le_refl _) rfl ?_
  rintro _ _ ⟨rfl, rfl⟩
  refine r_ifeqF H 13 d_j42_139_10 rfl (by decide) ?_
  refine r_new H 16 d_j42_139_13 (tw9 hw) (tw10 hw) (tw2 hw) (by decide) (by decide) rfl ?_
  intro h2 b2 g2 l2 K2 E2 D2
  refine r_dup H 17 d_j42_139_16 rfl rfl ?_
  refine r_iloadN H 18 d_j42_139_17 rfl rfl ?_
  refine r_static H 21 d_j42_139_18 (tw11 hw) (tw12 hw) (tw7 hw) (tw13 hw) (by decide) (lenOf pd_6 rfl) (rm_toBytes_8 hw Ts i1 h2 f Zf (Nat.le_trans Z0 K2.1)) (argsL := [(.int i1)]) (rest := [(.ref b2), (.ref b2)]) rfl (W := 2) (Nat.le_of_eq rfl) rfl (by decide) (by decide) (by decide) (by decide) (Nat.le_refl _) rfl ?_
  rintro _ hh9 ⟨b3, kc4, rfl, K5, g6, q7, q8⟩
  refine r_iconst H 22 (0 : Int32) d_j42_139_21 (by decide) rfl ?_
  have q10 := (E2.keep K5)
  have q11 := ((show Fld Z h2 b2 "java/lang/String" "value" "[B" .null from D2 (Or.inr (tw23 hw)) (ty := (.array .byte)) (by decide)).keep K5 nin0)
  have q12 := ((show Fld Z h2 b2 "java/lang/String" "coder" "B" (.int (0 : Int32)) from D2 (Or.inr (tw25 hw)) (ty := .byte) (by decide)).keep K5 nin0)
  refine r_special H 25 (a := b2) d_j42_139_22 (tw15 hw) (tw16 hw) (tw2 hw) (tw18 hw) (by decide) rfl (lenOf pd_7 rfl) (rm_init_9 hw Ts b2 b3 hh9 f Zf (Nat.le_trans Z0 (Nat.le_trans K2.1 K5.1)) q10 q11 (Nat.le_trans Z0 (Nat.le_of_eq g2.symm)) q12) (argsL := [(.ref b3), (.int (0 : Int32))]) (rest := [(.ref b2)]) rfl (W := 1) (Nat.le_of_eq rfl) rfl (by decide) (by decide) (by decide) (by decide) (Nat.le_refl _) rfl ?_
  rintro _ hh17 ⟨rfl, K13, q14, q15, q16⟩
  have k18 : Keep h0 h2 [] := Keep.trans (Keep.refl h0 []) K2 all0
  have k19 : Keep h0 hh9 [] := Keep.trans k18 K5 all0
  have k20 : Keep h0 hh17 [] := Keep.trans k19 K13 (allS (Or.inr (Nat.le_trans (Nat.le_refl _) (Nat.le_of_eq g2.symm))) all0)
  have q21 := (q7.keep K13 (ninS (Ne.symm (Nat.ne_of_lt (Nat.lt_of_lt_of_le E2.lt (Nat.le_trans (Nat.le_refl _) g6)))) nin0))
  have q22 := (q8.keep K13)
  exact r_areturn H rfl rfl d_j42_139_25 (by decide) (by decide) (Nat.le_refl _) (fun _ t => t) (⟨b2, b3, kc4, rfl, k20, (Nat.le_trans (Nat.le_refl _) (Nat.le_of_eq g2.symm)), (Nat.le_trans K2.1 g6), (Nat.lt_of_lt_of_le E2.lt (Nat.le_trans (Nat.le_refl _) g6)), q14, q15, q16, q21, q22⟩)
def Q_init_11 (Z : State) (a1 : Addr) (h0 : Heap) (v : Option Value) (h : Heap) : Prop := ∃ (lv1 : Addr) (kl1 : ClassId), v = none ∧ Keep h0 h [a1] ∧ Exa Z h a1 "java/lang/String" ∧ Fld Z h a1 "java/lang/String" "coder" "B" (.int (0 : Int32)) ∧ Fld Z h a1 "java/lang/String" "value" "[B" (.ref lv1) ∧ Ar Z h lv1 kl1 .byte []
def R_init_11 : Room := { frames := 1, cells := 2, slots := 4, locals := 12 }
theorem rm_init_11 {Z : State} {a0 : Array Value} (hw : ∀ d ∈ tables_1, d.before a0 Z = true) (Ts : List String) (a1 : Addr) (a2 : Addr) (h0 : Heap) (f : Nat) (Zf : Z.heap.size ≤ f) (Z0 : f ≤ h0.size) (E_a1 : Exa Z h0 a1 "java/lang/String") (F_value_a1 : Fld Z h0 a1 "java/lang/String" "value" "[B" .null) (g_a1 : f ≤ a1) (F_coder_a1 : Fld Z h0 a1 "java/lang/String" "coder" "B" (.int (0 : Int32))) (wS : ∀ a ∈ Bundle.stringAtoms, a.before a0 Z = true) (hcw : Jvm.Lit.compactW.before a0 Z = true) (hh0 : Jvm.Lit.constHeld Z "java/lang/String" 7) (hT_empty : "" ∉ Ts) :
    Con true [] Z (⟨"java/lang/String", "<init>", "([CIILjava/lang/Void;)V"⟩ : MethodName) jdk_42_method_149_code 6 none R_init_11 Ts ("" :: Ts) f #[(.ref a1), (.ref a2), (.int (0 : Int32)), (.int (0 : Int32)), .null] h0 (Q_init_11 Z a1 h0) := by
  refine con_of h0.size #[.val (.ref a1), .val (.ref a2), .val (.int (0 : Int32)), .val (.int (0 : Int32)), .val .null, .unset] (plainFor_of_name pn_1) (fun m => by first | rfl | (simp [entryFrame, mkF, argsToLocals, Value.category]; done)) (Nat.le_trans Zf Z0) ?_
  intro C H hX0
  refine r_aloadN H 1 d_j42_149_0 rfl rfl rfl ?_
  refine r_initO H 4 d_j42_149_1 (tw19 hw) (tw20 hw) (tw21 hw) rfl (by decide) (W := 0) (Nat.le_of_eq rfl) (by decide) rfl ?_
  refine r_iloadN H 5 d_j42_149_4 rfl rfl ?_
  refine r_ifneF H 8 d_j42_149_5 rfl (by decide) ?_
  refine r_aloadN H 9 d_j42_149_8 rfl rfl rfl ?_
  refine r_ldcS H 11 (vs := []) (z := (0 : Int32)) 0 d_j42_149_9 (tw85 hw) wS hT_empty hh0 hcw ⟨by decide, by decide⟩ (by decide) (by decide) (by decide) (by decide) (by decide) (by decide) rfl ?_
  intro h1 la1 lv1 kl1 K1 E1 C1 V1 A1 D1
  refine r_getf H 14 d_j42_149_11 (tw22 hw) Via.refl V1 rfl ?_
  have q2 := (E_a1.keep K1)
  have q3 := (F_value_a1.keep K1 nin0)
  refine Run.low Z0 Zf ?_
  refine r_putf H 17 d_j42_149_14 (tw22 hw) Via.refl q3 q2 (Or.inr ⟨(tw23 hw), rfl, rfl⟩) (tw10 hw) (ty := (.array .byte)) (by decide) rfl rfl g_a1 rfl ?_
  intro h4 W4 K4 E4 F4
  refine r_aloadN H 18 d_j42_149_17 rfl rfl rfl ?_
  refine r_ldcA H 20 d_j42_149_18 (tw85 hw) (List.mem_singleton.mpr rfl) rfl ?_
  have q5 := (C1.other W4 (Or.inr (slot_ne (Or.inr (tw25 hw)) (Or.inr (tw23 hw)) (by decide) (t := .byte) (t' := (.array .byte)) (by decide) (by decide))))
  refine r_getf H 23 d_j42_149_20 (tw24 hw) Via.refl q5 rfl ?_
  have q6 := ((F_coder_a1.keep K1 nin0).other W4 (Or.inr (slot_ne (Or.inr (tw25 hw)) (Or.inr (tw23 hw)) (by decide) (t := .byte) (t' := (.array .byte)) (by decide) (by decide))))
  refine r_putn H 26 (v' := (.int (0 : Int32))) d_j42_149_23 (tw24 hw) Via.refl q6 E4 (Or.inr ⟨(tw25 hw), rfl, rfl⟩) (tw10 hw) (ty := .byte) (by decide) rfl (by decide) g_a1 rfl ?_
  intro h7 W7 K7 E7 F7
  have k8 : Keep h0 h1 [a1] := Keep.trans (Keep.refl h0 [a1]) K1 all0
  have k9 : Keep h0 h4 [a1] := Keep.trans k8 K4 (allS (Or.inl (List.mem_of_getElem? (i := 0) rfl)) all0)
  have k10 : Keep h0 h7 [a1] := Keep.trans k9 K7 (allS (Or.inl (List.mem_of_getElem? (i := 0) rfl)) all0)
  have q11 := (F4.other W7 (Or.inr (slot_ne (Or.inr (tw23 hw)) (Or.inr (tw25 hw)) (by decide) (t := (.array .byte)) (t' := .byte) (by decide) (by decide))))
  have q12 := ((A1.keep K4 (ninS (Ne.symm (ne_ar (E_a1.keep K1) (tw10 hw) A1)) nin0)).keep K7 (ninS (Ne.symm (ne_ar (E_a1.keep K1) (tw10 hw) A1)) nin0))
  exact r_return H d_j42_149_26 (by decide) (by decide) (Nat.le_refl _) (fun _ t => t) (⟨lv1, kl1, rfl, k10, E7, F7, q11, q12⟩)
def Q_init_10 (Z : State) (a1 : Addr) (h0 : Heap) (v : Option Value) (h : Heap) : Prop := ∃ (b1 : Addr) (kc2 : ClassId), v = none ∧ Keep h0 h [a1] ∧ Exa Z h a1 "java/lang/String" ∧ Fld Z h a1 "java/lang/String" "coder" "B" (.int (0 : Int32)) ∧ Fld Z h a1 "java/lang/String" "value" "[B" (.ref b1) ∧ Ar Z h b1 kc2 .byte []
def R_init_10 : Room := { frames := 2, cells := 2, slots := 4, locals := 29 }
theorem rm_init_10 {Z : State} {a0 : Array Value} (hw : ∀ d ∈ tables_1, d.before a0 Z = true) (Ts : List String) (a1 : Addr) (a2 : Addr) (c1 : ClassId) (h0 : Heap) (f : Nat) (Zf : Z.heap.size ≤ f) (Z0 : f ≤ h0.size) (A_a2 : Ar Z h0 a2 c1 .char []) (g_a1 : f ≤ a1) (E_a1 : Exa Z h0 a1 "java/lang/String") (F_value_a1 : Fld Z h0 a1 "java/lang/String" "value" "[B" .null) (F_coder_a1 : Fld Z h0 a1 "java/lang/String" "coder" "B" (.int (0 : Int32))) (wS : ∀ a ∈ Bundle.stringAtoms, a.before a0 Z = true) (hcw : Jvm.Lit.compactW.before a0 Z = true) (hh0 : Jvm.Lit.constHeld Z "java/lang/String" 7) (hT_empty : "" ∉ Ts) :
    Con true [] Z (⟨"java/lang/String", "<init>", "([C)V"⟩ : MethodName) jdk_42_method_3_code 2 none R_init_10 Ts ("" :: Ts) f #[(.ref a1), (.ref a2)] h0 (Q_init_10 Z a1 h0) := by
  refine con_of h0.size #[.val (.ref a1), .val (.ref a2)] (plainFor_of_name pn_1) (fun m => by first | rfl | (simp [entryFrame, mkF, argsToLocals, Value.category]; done)) (Nat.le_trans Zf Z0) ?_
  intro C H hX0
  refine r_aloadN H 1 d_j42_3_0 rfl rfl rfl ?_
  refine r_aloadN H 2 d_j42_3_1 rfl rfl rfl ?_
  refine r_iconst H 3 (0 : Int32) d_j42_3_2 (by decide) rfl ?_
  refine r_aloadN H 4 d_j42_3_3 rfl rfl rfl ?_
  refine r_alen H 5 (0 : Int32) d_j42_3_4 A_a2 rfl rfl ?_
  refine r_null H 6 d_j42_3_5 rfl ?_
  refine Run.low Z0 Zf ?_
  refine r_special H 9 (a := a1) d_j42_3_6 (tw72 hw) (tw73 hw) (tw2 hw) (tw74 hw) (by decide) rfl (lenOf pd_3 rfl) (rm_init_11 hw Ts a1 a2 h0 f Zf Z0 E_a1 F_value_a1 g_a1 F_coder_a1 wS hcw hh0 hT_empty) (argsL := [(.ref a2), (.int (0 : Int32)), (.int (0 : Int32)), .null]) (rest := []) rfl (W := 0) (Nat.le_of_eq rfl) rfl (by decide) (by decide) (by decide) (by decide) (Nat.le_refl _) rfl ?_
  rintro _ hh8 ⟨b1, kc2, rfl, K3, q4, q5, q6, q7⟩
  have k9 : Keep h0 hh8 [a1] := Keep.trans (Keep.refl h0 [a1]) K3 (allS (Or.inl (List.mem_of_getElem? (i := 0) rfl)) all0)
  exact r_return H d_j42_3_9 (by decide) (by decide) (Nat.le_refl _) (fun _ t => t) (⟨b1, kc2, rfl, k9, q4, q5, q6, q7⟩)
def Q_init_14 (Z : State) (h0 : Heap) (v : Option Value) (h : Heap) : Prop := v = none ∧ h0 = h
def R_init_14 : Room := { frames := 1, cells := 0, slots := 0, locals := 12 }
theorem rm_init_14 {w : Bool} {Z : State} {a0 : Array Value} (hw : ∀ d ∈ tables_1, d.before a0 Z = true) (Ts : List String) (a1 : Addr) (h0 : Heap) (f : Nat) (Zf : Z.heap.size ≤ f) (Z0 : f ≤ h0.size) :
    Con w [] Z (⟨"java/lang/Record", "<init>", "()V"⟩ : MethodName) jdk_30_method_1_code 1 none R_init_14 Ts Ts f #[(.ref a1)] h0 (Q_init_14 Z h0) := by
  refine con_of f #[.val (.ref a1)] (plainFor_of_name pn_3) (fun m => by first | rfl | (simp [entryFrame, mkF, argsToLocals, Value.category]; done)) Zf ?_
  intro C H hX0
  refine r_aloadN H 1 d_j30_1_0 rfl rfl rfl ?_
  refine r_initO H 4 d_j30_1_1 (tw40 hw) (tw20 hw) (tw21 hw) rfl (by decide) (W := 0) (Nat.le_of_eq rfl) (by decide) rfl ?_
  exact r_return H d_j30_1_4 (by decide) (by decide) (Nat.le_refl _) (fun _ t => t) (⟨rfl, rfl⟩)
def Q_init_13 (Z : State) (a1 : Addr) (h0 : Heap) (v : Option Value) (h : Heap) : Prop := v = none ∧ Keep h0 h [a1] ∧ Exa Z h a1 "com/example/valuta/valuta/api/TextField" ∧ Fld Z h a1 "com/example/valuta/valuta/api/TextField" "hostId" "Z" (.int (1 : Int32)) ∧ Fld Z h a1 "com/example/valuta/valuta/api/TextField" "maxLength" "I" (.int (64 : Int32)) ∧ Fld Z h a1 "com/example/valuta/valuta/api/TextField" "name" "Ljava/lang/String;" .null
def R_init_13 : Room := { frames := 2, cells := 0, slots := 0, locals := 24 }
theorem rm_init_13 {w : Bool} {Z : State} {a0 : Array Value} (hw : ∀ d ∈ tables_1, d.before a0 Z = true) (Ts : List String) (a1 : Addr) (h0 : Heap) (f : Nat) (Zf : Z.heap.size ≤ f) (Z0 : f ≤ h0.size) (E_a1 : Exa Z h0 a1 "com/example/valuta/valuta/api/TextField") (F_name_a1 : Fld Z h0 a1 "com/example/valuta/valuta/api/TextField" "name" "Ljava/lang/String;" .null) (g_a1 : f ≤ a1) (F_maxLength_a1 : Fld Z h0 a1 "com/example/valuta/valuta/api/TextField" "maxLength" "I" (.int (0 : Int32))) (F_hostId_a1 : Fld Z h0 a1 "com/example/valuta/valuta/api/TextField" "hostId" "Z" (.int (0 : Int32))) :
    Con w [] Z (⟨"com/example/valuta/valuta/api/TextField", "<init>", "(Ljava/lang/String;IZ)V"⟩ : MethodName) prog_19_method_2_code 4 none R_init_13 Ts Ts f #[(.ref a1), .null, (.int (64 : Int32)), (.int (1 : Int32))] h0 (Q_init_13 Z a1 h0) := by
  refine con_of f #[.val (.ref a1), .val .null, .val (.int (64 : Int32)), .val (.int (1 : Int32))] (plainFor_of_name pn_4) (fun m => by first | rfl | (simp [entryFrame, mkF, argsToLocals, Value.category]; done)) Zf ?_
  intro C H hX0
  refine r_aloadN H 1 d_g19_2_0 rfl rfl rfl ?_
  refine r_special H 4 (a := a1) d_g19_2_1 (tw35 hw) (tw36 hw) (tw38 hw) (tw39 hw) (by decide) rfl (lenOf pd_9 rfl) (rm_init_14 hw Ts a1 h0 f Zf Z0) (argsL := []) (rest := []) rfl (W := 0) (Nat.le_of_eq rfl) rfl (by decide) (by decide) (by decide) (by decide) (Nat.le_refl _) rfl ?_
  rintro _ _ ⟨rfl, rfl⟩
  refine r_aloadN H 5 d_g19_2_4 rfl rfl rfl ?_
  refine r_aloadN H 6 d_g19_2_5 rfl rfl rfl ?_
  refine r_putf H 9 d_g19_2_6 (tw41 hw) Via.refl F_name_a1 E_a1 (Or.inr ⟨(tw42 hw), rfl, rfl⟩) (tw31 hw) (ty := (.object "java/lang/String")) (by decide) rfl rfl g_a1 rfl ?_
  intro h2 W2 K2 E2 F2
  refine r_aloadN H 10 d_g19_2_9 rfl rfl rfl ?_
  refine r_iloadN H 11 d_g19_2_10 rfl rfl ?_
  have q3 := (F_maxLength_a1.other W2 (Or.inr (slot_ne (Or.inr (tw44 hw)) (Or.inr (tw42 hw)) (by decide) (t := .int) (t' := (.object "java/lang/String")) (by decide) (by decide))))
  refine r_putf H 14 d_g19_2_11 (tw43 hw) Via.refl q3 E2 (Or.inr ⟨(tw44 hw), rfl, rfl⟩) (tw31 hw) (ty := .int) (by decide) rfl rfl g_a1 rfl ?_
  intro h4 W4 K4 E4 F4
  refine r_aloadN H 15 d_g19_2_14 rfl rfl rfl ?_
  refine r_iloadN H 16 d_g19_2_15 rfl rfl ?_
  have q5 := ((F_hostId_a1.other W2 (Or.inr (slot_ne (Or.inr (tw46 hw)) (Or.inr (tw42 hw)) (by decide) (t := .boolean) (t' := (.object "java/lang/String")) (by decide) (by decide)))).other W4 (Or.inr (slot_ne (Or.inr (tw46 hw)) (Or.inr (tw44 hw)) (by decide) (t := .boolean) (t' := .int) (by decide) (by decide))))
  refine r_putn H 19 (v' := (.int (1 : Int32))) d_g19_2_16 (tw45 hw) Via.refl q5 E4 (Or.inr ⟨(tw46 hw), rfl, rfl⟩) (tw31 hw) (ty := .boolean) (by decide) rfl (by decide) g_a1 rfl ?_
  intro h6 W6 K6 E6 F6
  have k7 : Keep h0 h2 [a1] := Keep.trans (Keep.refl h0 [a1]) K2 (allS (Or.inl (List.mem_of_getElem? (i := 0) rfl)) all0)
  have k8 : Keep h0 h4 [a1] := Keep.trans k7 K4 (allS (Or.inl (List.mem_of_getElem? (i := 0) rfl)) all0)
  have k9 : Keep h0 h6 [a1] := Keep.trans k8 K6 (allS (Or.inl (List.mem_of_getElem? (i := 0) rfl)) all0)
  have q10 := (F4.other W6 (Or.inr (slot_ne (Or.inr (tw44 hw)) (Or.inr (tw46 hw)) (by decide) (t := .int) (t' := .boolean) (by decide) (by decide))))
  have q11 := ((F2.other W4 (Or.inr (slot_ne (Or.inr (tw42 hw)) (Or.inr (tw44 hw)) (by decide) (t := (.object "java/lang/String")) (t' := .int) (by decide) (by decide)))).other W6 (Or.inr (slot_ne (Or.inr (tw42 hw)) (Or.inr (tw46 hw)) (by decide) (t := (.object "java/lang/String")) (t' := .boolean) (by decide) (by decide))))
  exact r_return H d_g19_2_19 (by decide) (by decide) (Nat.le_refl _) (fun _ t => t) (⟨rfl, k9, E6, F6, q10, q11⟩)
def Q_hostId_12 (Z : State) (h0 : Heap) (v : Option Value) (h : Heap) : Prop := ∃ (b1 : Addr), v = some (.ref b1) ∧ Keep h0 h [] ∧ h0.size ≤ b1 ∧ Exa Z h b1 "com/example/valuta/valuta/api/TextField" ∧ Fld Z h b1 "com/example/valuta/valuta/api/TextField" "hostId" "Z" (.int (1 : Int32)) ∧ Fld Z h b1 "com/example/valuta/valuta/api/TextField" "maxLength" "I" (.int (64 : Int32)) ∧ Fld Z h b1 "com/example/valuta/valuta/api/TextField" "name" "Ljava/lang/String;" .null
def R_hostId_12 : Room := { frames := 3, cells := 1, slots := 3, locals := 40 }
theorem rm_hostId_12 {w : Bool} {Z : State} {a0 : Array Value} (hw : ∀ d ∈ tables_1, d.before a0 Z = true) (Ts : List String) (h0 : Heap) (f : Nat) (Zf : Z.heap.size ≤ f) (Z0 : f ≤ h0.size) :
    Con w [] Z (⟨"com/example/valuta/valuta/api/TextField", "hostId", "(Ljava/lang/String;)Lcom/example/valuta/valuta/api/TextField;"⟩ : MethodName) prog_19_method_3_code 1 (some (.object "com/example/valuta/valuta/api/TextField")) R_hostId_12 Ts Ts f #[.null] h0 (Q_hostId_12 Z h0) := by
  refine con_of f #[.val .null] (plainFor_of_name pn_4) (fun m => by first | rfl | (simp [entryFrame, mkF, argsToLocals, Value.category]; done)) Zf ?_
  intro C H hX0
  refine r_new H 3 d_g19_3_0 (tw30 hw) (tw31 hw) (tw28 hw) (by decide) (by decide) rfl ?_
  intro h1 b1 g1 l1 K1 E1 D1
  refine r_dup H 4 d_g19_3_3 rfl rfl ?_
  refine r_aloadN H 5 d_g19_3_4 rfl rfl rfl ?_
  refine r_bipush H 7 (64 : Int32) d_g19_3_5 (by decide) rfl ?_
  refine r_iconst H 8 (1 : Int32) d_g19_3_7 (by decide) rfl ?_
  refine r_special H 11 (a := b1) d_g19_3_8 (tw32 hw) (tw33 hw) (tw28 hw) (tw34 hw) (by decide) rfl (lenOf pd_10 rfl) (rm_init_13 hw Ts b1 h1 f Zf (Nat.le_trans Z0 K1.1) E1 (show Fld Z h1 b1 "com/example/valuta/valuta/api/TextField" "name" "Ljava/lang/String;" .null from D1 (Or.inr (tw42 hw)) (ty := (.object "java/lang/String")) (by decide)) (Nat.le_trans Z0 (Nat.le_of_eq g1.symm)) (show Fld Z h1 b1 "com/example/valuta/valuta/api/TextField" "maxLength" "I" (.int (0 : Int32)) from D1 (Or.inr (tw44 hw)) (ty := .int) (by decide)) (show Fld Z h1 b1 "com/example/valuta/valuta/api/TextField" "hostId" "Z" (.int (0 : Int32)) from D1 (Or.inr (tw46 hw)) (ty := .boolean) (by decide))) (argsL := [.null, (.int (64 : Int32)), (.int (1 : Int32))]) (rest := [(.ref b1)]) rfl (W := 1) (Nat.le_of_eq rfl) rfl (by decide) (by decide) (by decide) (by decide) (Nat.le_refl _) rfl ?_
  rintro _ hh7 ⟨rfl, K2, q3, q4, q5, q6⟩
  have k8 : Keep h0 h1 [] := Keep.trans (Keep.refl h0 []) K1 all0
  have k9 : Keep h0 hh7 [] := Keep.trans k8 K2 (allS (Or.inr (Nat.le_trans (Nat.le_refl _) (Nat.le_of_eq g1.symm))) all0)
  exact r_areturn H rfl rfl d_g19_3_11 (by decide) (by decide) (Nat.le_refl _) (fun _ t => t) (⟨b1, rfl, k9, (Nat.le_trans (Nat.le_refl _) (Nat.le_of_eq g1.symm)), q3, q4, q5, q6⟩)
def Q_name_15 (Z : State) (h0 : Heap) (v : Option Value) (h : Heap) : Prop := v = some .null ∧ h0 = h
def R_name_15 : Room := { frames := 0, cells := 0, slots := 0, locals := 0 }
theorem rm_name_15 {w : Bool} {Z : State} {a0 : Array Value} (hw : ∀ d ∈ tables_1, d.before a0 Z = true) (Ts : List String) (a1 : Addr) (h0 : Heap) (f : Nat) (Zf : Z.heap.size ≤ f) (Z0 : f ≤ h0.size) (F_name_a1 : Fld Z h0 a1 "com/example/valuta/valuta/api/TextField" "name" "Ljava/lang/String;" .null) :
    Con w [] Z (⟨"com/example/valuta/valuta/api/TextField", "name", "()Ljava/lang/String;"⟩ : MethodName) prog_19_method_7_code 1 (some (.object "java/lang/String")) R_name_15 Ts Ts f #[(.ref a1)] h0 (Q_name_15 Z h0) := by
  refine con_of f #[.val (.ref a1)] (plainFor_of_name pn_4) (fun m => by first | rfl | (simp [entryFrame, mkF, argsToLocals, Value.category]; done)) Zf ?_
  intro C H hX0
  refine r_aloadN H 1 d_g19_7_0 rfl rfl rfl ?_
  refine r_getf H 4 d_g19_7_1 (tw41 hw) Via.refl F_name_a1 rfl ?_
  exact r_areturn H rfl rfl d_g19_7_4 (by decide) (by decide) (Nat.le_refl _) (fun _ t => t) (⟨rfl, rfl⟩)
def Q_maxLength_16 (Z : State) (h0 : Heap) (v : Option Value) (h : Heap) : Prop := v = some (.int (64 : Int32)) ∧ h0 = h
def R_maxLength_16 : Room := { frames := 0, cells := 0, slots := 0, locals := 0 }
theorem rm_maxLength_16 {w : Bool} {Z : State} {a0 : Array Value} (hw : ∀ d ∈ tables_1, d.before a0 Z = true) (Ts : List String) (a1 : Addr) (h0 : Heap) (f : Nat) (Zf : Z.heap.size ≤ f) (Z0 : f ≤ h0.size) (F_maxLength_a1 : Fld Z h0 a1 "com/example/valuta/valuta/api/TextField" "maxLength" "I" (.int (64 : Int32))) :
    Con w [] Z (⟨"com/example/valuta/valuta/api/TextField", "maxLength", "()I"⟩ : MethodName) prog_19_method_8_code 1 (some .int) R_maxLength_16 Ts Ts f #[(.ref a1)] h0 (Q_maxLength_16 Z h0) := by
  refine con_of f #[.val (.ref a1)] (plainFor_of_name pn_4) (fun m => by first | rfl | (simp [entryFrame, mkF, argsToLocals, Value.category]; done)) Zf ?_
  intro C H hX0
  refine r_aloadN H 1 d_g19_8_0 rfl rfl rfl ?_
  refine r_getf H 4 d_g19_8_1 (tw43 hw) Via.refl F_maxLength_a1 rfl ?_
  exact r_ireturn H d_g19_8_4 (by decide) (by decide) (Nat.le_refl _) (fun _ t => t) (⟨rfl, rfl⟩)
def Q_hostId_17 (Z : State) (h0 : Heap) (v : Option Value) (h : Heap) : Prop := v = some (.int (1 : Int32)) ∧ h0 = h
def R_hostId_17 : Room := { frames := 0, cells := 0, slots := 0, locals := 0 }
theorem rm_hostId_17 {w : Bool} {Z : State} {a0 : Array Value} (hw : ∀ d ∈ tables_1, d.before a0 Z = true) (Ts : List String) (a1 : Addr) (h0 : Heap) (f : Nat) (Zf : Z.heap.size ≤ f) (Z0 : f ≤ h0.size) (F_hostId_a1 : Fld Z h0 a1 "com/example/valuta/valuta/api/TextField" "hostId" "Z" (.int (1 : Int32))) :
    Con w [] Z (⟨"com/example/valuta/valuta/api/TextField", "hostId", "()Z"⟩ : MethodName) prog_19_method_9_code 1 (some .boolean) R_hostId_17 Ts Ts f #[(.ref a1)] h0 (Q_hostId_17 Z h0) := by
  refine con_of f #[.val (.ref a1)] (plainFor_of_name pn_4) (fun m => by first | rfl | (simp [entryFrame, mkF, argsToLocals, Value.category]; done)) Zf ?_
  intro C H hX0
  refine r_aloadN H 1 d_g19_9_0 rfl rfl rfl ?_
  refine r_getf H 4 d_g19_9_1 (tw45 hw) Via.refl F_hostId_a1 rfl ?_
  exact r_nreturn (1 : Int32) H (by simp) d_g19_9_4 (by decide) (by decide) (by decide) (Nat.le_refl _) (fun _ t => t) (⟨rfl, rfl⟩)
def Q_init_19 (Z : State) (a1 : Addr) (a2 : Addr) (h0 : Heap) (v : Option Value) (h : Heap) : Prop := v = none ∧ Keep h0 h [a1] ∧ Exa Z h a1 "com/example/valuta/valuta/api/TextField" ∧ Fld Z h a1 "com/example/valuta/valuta/api/TextField" "hostId" "Z" (.int (1 : Int32)) ∧ Fld Z h a1 "com/example/valuta/valuta/api/TextField" "maxLength" "I" (.int (64 : Int32)) ∧ Fld Z h a1 "com/example/valuta/valuta/api/TextField" "name" "Ljava/lang/String;" (.ref a2)
def R_init_19 : Room := { frames := 2, cells := 0, slots := 0, locals := 24 }
theorem rm_init_19 {w : Bool} {Z : State} {a0 : Array Value} (hw : ∀ d ∈ tables_1, d.before a0 Z = true) (Ts : List String) (a1 : Addr) (a2 : Addr) (h0 : Heap) (f : Nat) (Zf : Z.heap.size ≤ f) (Z0 : f ≤ h0.size) (E_a1 : Exa Z h0 a1 "com/example/valuta/valuta/api/TextField") (F_name_a1 : Fld Z h0 a1 "com/example/valuta/valuta/api/TextField" "name" "Ljava/lang/String;" .null) (g_a1 : f ≤ a1) (F_maxLength_a1 : Fld Z h0 a1 "com/example/valuta/valuta/api/TextField" "maxLength" "I" (.int (0 : Int32))) (F_hostId_a1 : Fld Z h0 a1 "com/example/valuta/valuta/api/TextField" "hostId" "Z" (.int (0 : Int32))) :
    Con w [] Z (⟨"com/example/valuta/valuta/api/TextField", "<init>", "(Ljava/lang/String;IZ)V"⟩ : MethodName) prog_19_method_2_code 4 none R_init_19 Ts Ts f #[(.ref a1), (.ref a2), (.int (64 : Int32)), (.int (1 : Int32))] h0 (Q_init_19 Z a1 a2 h0) := by
  refine con_of f #[.val (.ref a1), .val (.ref a2), .val (.int (64 : Int32)), .val (.int (1 : Int32))] (plainFor_of_name pn_4) (fun m => by first | rfl | (simp [entryFrame, mkF, argsToLocals, Value.category]; done)) Zf ?_
  intro C H hX0
  refine r_aloadN H 1 d_g19_2_0 rfl rfl rfl ?_
  refine r_special H 4 (a := a1) d_g19_2_1 (tw35 hw) (tw36 hw) (tw38 hw) (tw39 hw) (by decide) rfl (lenOf pd_9 rfl) (rm_init_14 hw Ts a1 h0 f Zf Z0) (argsL := []) (rest := []) rfl (W := 0) (Nat.le_of_eq rfl) rfl (by decide) (by decide) (by decide) (by decide) (Nat.le_refl _) rfl ?_
  rintro _ _ ⟨rfl, rfl⟩
  refine r_aloadN H 5 d_g19_2_4 rfl rfl rfl ?_
  refine r_aloadN H 6 d_g19_2_5 rfl rfl rfl ?_
  refine r_putf H 9 d_g19_2_6 (tw41 hw) Via.refl F_name_a1 E_a1 (Or.inr ⟨(tw42 hw), rfl, rfl⟩) (tw31 hw) (ty := (.object "java/lang/String")) (by decide) rfl rfl g_a1 rfl ?_
  intro h2 W2 K2 E2 F2
  refine r_aloadN H 10 d_g19_2_9 rfl rfl rfl ?_
  refine r_iloadN H 11 d_g19_2_10 rfl rfl ?_
  have q3 := (F_maxLength_a1.other W2 (Or.inr (slot_ne (Or.inr (tw44 hw)) (Or.inr (tw42 hw)) (by decide) (t := .int) (t' := (.object "java/lang/String")) (by decide) (by decide))))
  refine r_putf H 14 d_g19_2_11 (tw43 hw) Via.refl q3 E2 (Or.inr ⟨(tw44 hw), rfl, rfl⟩) (tw31 hw) (ty := .int) (by decide) rfl rfl g_a1 rfl ?_
  intro h4 W4 K4 E4 F4
  refine r_aloadN H 15 d_g19_2_14 rfl rfl rfl ?_
  refine r_iloadN H 16 d_g19_2_15 rfl rfl ?_
  have q5 := ((F_hostId_a1.other W2 (Or.inr (slot_ne (Or.inr (tw46 hw)) (Or.inr (tw42 hw)) (by decide) (t := .boolean) (t' := (.object "java/lang/String")) (by decide) (by decide)))).other W4 (Or.inr (slot_ne (Or.inr (tw46 hw)) (Or.inr (tw44 hw)) (by decide) (t := .boolean) (t' := .int) (by decide) (by decide))))
  refine r_putn H 19 (v' := (.int (1 : Int32))) d_g19_2_16 (tw45 hw) Via.refl q5 E4 (Or.inr ⟨(tw46 hw), rfl, rfl⟩) (tw31 hw) (ty := .boolean) (by decide) rfl (by decide) g_a1 rfl ?_
  intro h6 W6 K6 E6 F6
  have k7 : Keep h0 h2 [a1] := Keep.trans (Keep.refl h0 [a1]) K2 (allS (Or.inl (List.mem_of_getElem? (i := 0) rfl)) all0)
  have k8 : Keep h0 h4 [a1] := Keep.trans k7 K4 (allS (Or.inl (List.mem_of_getElem? (i := 0) rfl)) all0)
  have k9 : Keep h0 h6 [a1] := Keep.trans k8 K6 (allS (Or.inl (List.mem_of_getElem? (i := 0) rfl)) all0)
  have q10 := (F4.other W6 (Or.inr (slot_ne (Or.inr (tw44 hw)) (Or.inr (tw46 hw)) (by decide) (t := .int) (t' := .boolean) (by decide) (by decide))))
  have q11 := ((F2.other W4 (Or.inr (slot_ne (Or.inr (tw42 hw)) (Or.inr (tw44 hw)) (by decide) (t := (.object "java/lang/String")) (t' := .int) (by decide) (by decide)))).other W6 (Or.inr (slot_ne (Or.inr (tw42 hw)) (Or.inr (tw46 hw)) (by decide) (t := (.object "java/lang/String")) (t' := .boolean) (by decide) (by decide))))
  exact r_return H d_g19_2_19 (by decide) (by decide) (Nat.le_refl _) (fun _ t => t) (⟨rfl, k9, E6, F6, q10, q11⟩)
def Q_hostId_18 (Z : State) (a1 : Addr) (h0 : Heap) (v : Option Value) (h : Heap) : Prop := ∃ (b1 : Addr), v = some (.ref b1) ∧ Keep h0 h [] ∧ h0.size ≤ b1 ∧ Exa Z h b1 "com/example/valuta/valuta/api/TextField" ∧ Fld Z h b1 "com/example/valuta/valuta/api/TextField" "hostId" "Z" (.int (1 : Int32)) ∧ Fld Z h b1 "com/example/valuta/valuta/api/TextField" "maxLength" "I" (.int (64 : Int32)) ∧ Fld Z h b1 "com/example/valuta/valuta/api/TextField" "name" "Ljava/lang/String;" (.ref a1)
def R_hostId_18 : Room := { frames := 3, cells := 1, slots := 3, locals := 40 }
theorem rm_hostId_18 {w : Bool} {Z : State} {a0 : Array Value} (hw : ∀ d ∈ tables_1, d.before a0 Z = true) (Ts : List String) (a1 : Addr) (h0 : Heap) (f : Nat) (Zf : Z.heap.size ≤ f) (Z0 : f ≤ h0.size) :
    Con w [] Z (⟨"com/example/valuta/valuta/api/TextField", "hostId", "(Ljava/lang/String;)Lcom/example/valuta/valuta/api/TextField;"⟩ : MethodName) prog_19_method_3_code 1 (some (.object "com/example/valuta/valuta/api/TextField")) R_hostId_18 Ts Ts f #[(.ref a1)] h0 (Q_hostId_18 Z a1 h0) := by
  refine con_of f #[.val (.ref a1)] (plainFor_of_name pn_4) (fun m => by first | rfl | (simp [entryFrame, mkF, argsToLocals, Value.category]; done)) Zf ?_
  intro C H hX0
  refine r_new H 3 d_g19_3_0 (tw30 hw) (tw31 hw) (tw28 hw) (by decide) (by decide) rfl ?_
  intro h1 b1 g1 l1 K1 E1 D1
  refine r_dup H 4 d_g19_3_3 rfl rfl ?_
  refine r_aloadN H 5 d_g19_3_4 rfl rfl rfl ?_
  refine r_bipush H 7 (64 : Int32) d_g19_3_5 (by decide) rfl ?_
  refine r_iconst H 8 (1 : Int32) d_g19_3_7 (by decide) rfl ?_
  refine r_special H 11 (a := b1) d_g19_3_8 (tw32 hw) (tw33 hw) (tw28 hw) (tw34 hw) (by decide) rfl (lenOf pd_10 rfl) (rm_init_19 hw Ts b1 a1 h1 f Zf (Nat.le_trans Z0 K1.1) E1 (show Fld Z h1 b1 "com/example/valuta/valuta/api/TextField" "name" "Ljava/lang/String;" .null from D1 (Or.inr (tw42 hw)) (ty := (.object "java/lang/String")) (by decide)) (Nat.le_trans Z0 (Nat.le_of_eq g1.symm)) (show Fld Z h1 b1 "com/example/valuta/valuta/api/TextField" "maxLength" "I" (.int (0 : Int32)) from D1 (Or.inr (tw44 hw)) (ty := .int) (by decide)) (show Fld Z h1 b1 "com/example/valuta/valuta/api/TextField" "hostId" "Z" (.int (0 : Int32)) from D1 (Or.inr (tw46 hw)) (ty := .boolean) (by decide))) (argsL := [(.ref a1), (.int (64 : Int32)), (.int (1 : Int32))]) (rest := [(.ref b1)]) rfl (W := 1) (Nat.le_of_eq rfl) rfl (by decide) (by decide) (by decide) (by decide) (Nat.le_refl _) rfl ?_
  rintro _ hh7 ⟨rfl, K2, q3, q4, q5, q6⟩
  have k8 : Keep h0 h1 [] := Keep.trans (Keep.refl h0 []) K1 all0
  have k9 : Keep h0 hh7 [] := Keep.trans k8 K2 (allS (Or.inr (Nat.le_trans (Nat.le_refl _) (Nat.le_of_eq g1.symm))) all0)
  exact r_areturn H rfl rfl d_g19_3_11 (by decide) (by decide) (Nat.le_refl _) (fun _ t => t) (⟨b1, rfl, k9, (Nat.le_trans (Nat.le_refl _) (Nat.le_of_eq g1.symm)), q3, q4, q5, q6⟩)
def Q_name_20 (Z : State) (a2 : Addr) (h0 : Heap) (v : Option Value) (h : Heap) : Prop := v = some (.ref a2) ∧ h0 = h
def R_name_20 : Room := { frames := 0, cells := 0, slots := 0, locals := 0 }
theorem rm_name_20 {w : Bool} {Z : State} {a0 : Array Value} (hw : ∀ d ∈ tables_1, d.before a0 Z = true) (Ts : List String) (a1 : Addr) (a2 : Addr) (h0 : Heap) (f : Nat) (Zf : Z.heap.size ≤ f) (Z0 : f ≤ h0.size) (F_name_a1 : Fld Z h0 a1 "com/example/valuta/valuta/api/TextField" "name" "Ljava/lang/String;" (.ref a2)) :
    Con w [] Z (⟨"com/example/valuta/valuta/api/TextField", "name", "()Ljava/lang/String;"⟩ : MethodName) prog_19_method_7_code 1 (some (.object "java/lang/String")) R_name_20 Ts Ts f #[(.ref a1)] h0 (Q_name_20 Z a2 h0) := by
  refine con_of f #[.val (.ref a1)] (plainFor_of_name pn_4) (fun m => by first | rfl | (simp [entryFrame, mkF, argsToLocals, Value.category]; done)) Zf ?_
  intro C H hX0
  refine r_aloadN H 1 d_g19_7_0 rfl rfl rfl ?_
  refine r_getf H 4 d_g19_7_1 (tw41 hw) Via.refl F_name_a1 rfl ?_
  exact r_areturn H rfl rfl d_g19_7_4 (by decide) (by decide) (Nat.le_refl _) (fun _ t => t) (⟨rfl, rfl⟩)
def Q_equals_21 (Z : State) (h0 : Heap) (v : Option Value) (h : Heap) : Prop := v = some (.int (1 : Int32)) ∧ h0 = h
def R_equals_21 : Room := { frames := 0, cells := 0, slots := 0, locals := 0 }
theorem rm_equals_21 {w : Bool} {Z : State} {a0 : Array Value} (hw : ∀ d ∈ tables_1, d.before a0 Z = true) (Ts : List String) (a1 : Addr) (h0 : Heap) (f : Nat) (Zf : Z.heap.size ≤ f) (Z0 : f ≤ h0.size) :
    Con w [] Z (⟨"java/lang/String", "equals", "(Ljava/lang/Object;)Z"⟩ : MethodName) jdk_42_method_66_code 3 (some .boolean) R_equals_21 Ts Ts f #[(.ref a1), (.ref a1)] h0 (Q_equals_21 Z h0) := by
  refine con_of f #[.val (.ref a1), .val (.ref a1), .unset] (plainFor_of_name pn_1) (fun m => by first | rfl | (simp [entryFrame, mkF, argsToLocals, Value.category]; done)) Zf ?_
  intro C H hX0
  refine r_aloadN H 1 d_j42_66_0 rfl rfl rfl ?_
  refine r_aloadN H 2 d_j42_66_1 rfl rfl rfl ?_
  refine r_acmp H 5 true d_j42_66_2 rfl rfl (decide_eq_true rfl) (by decide) (by decide) ?_
  refine r_iconst H 6 (1 : Int32) d_j42_66_5 (by decide) rfl ?_
  exact r_nreturn (1 : Int32) H (by simp) d_j42_66_6 (by decide) (by decide) (by decide) (Nat.le_refl _) (fun _ t => t) (⟨rfl, rfl⟩)
def Q_maxLength_22 (Z : State) (h0 : Heap) (v : Option Value) (h : Heap) : Prop := v = some (.int (64 : Int32)) ∧ h0 = h
def R_maxLength_22 : Room := { frames := 0, cells := 0, slots := 0, locals := 0 }
theorem rm_maxLength_22 {w : Bool} {Z : State} {a0 : Array Value} (hw : ∀ d ∈ tables_1, d.before a0 Z = true) (Ts : List String) (a1 : Addr) (h0 : Heap) (f : Nat) (Zf : Z.heap.size ≤ f) (Z0 : f ≤ h0.size) (F_maxLength_a1 : Fld Z h0 a1 "com/example/valuta/valuta/api/TextField" "maxLength" "I" (.int (64 : Int32))) :
    Con w [] Z (⟨"com/example/valuta/valuta/api/TextField", "maxLength", "()I"⟩ : MethodName) prog_19_method_8_code 1 (some .int) R_maxLength_22 Ts Ts f #[(.ref a1)] h0 (Q_maxLength_22 Z h0) := by
  refine con_of f #[.val (.ref a1)] (plainFor_of_name pn_4) (fun m => by first | rfl | (simp [entryFrame, mkF, argsToLocals, Value.category]; done)) Zf ?_
  intro C H hX0
  refine r_aloadN H 1 d_g19_8_0 rfl rfl rfl ?_
  refine r_getf H 4 d_g19_8_1 (tw43 hw) Via.refl F_maxLength_a1 rfl ?_
  exact r_ireturn H d_g19_8_4 (by decide) (by decide) (Nat.le_refl _) (fun _ t => t) (⟨rfl, rfl⟩)
def Q_hostId_23 (Z : State) (h0 : Heap) (v : Option Value) (h : Heap) : Prop := v = some (.int (1 : Int32)) ∧ h0 = h
def R_hostId_23 : Room := { frames := 0, cells := 0, slots := 0, locals := 0 }
theorem rm_hostId_23 {w : Bool} {Z : State} {a0 : Array Value} (hw : ∀ d ∈ tables_1, d.before a0 Z = true) (Ts : List String) (a1 : Addr) (h0 : Heap) (f : Nat) (Zf : Z.heap.size ≤ f) (Z0 : f ≤ h0.size) (F_hostId_a1 : Fld Z h0 a1 "com/example/valuta/valuta/api/TextField" "hostId" "Z" (.int (1 : Int32))) :
    Con w [] Z (⟨"com/example/valuta/valuta/api/TextField", "hostId", "()Z"⟩ : MethodName) prog_19_method_9_code 1 (some .boolean) R_hostId_23 Ts Ts f #[(.ref a1)] h0 (Q_hostId_23 Z h0) := by
  refine con_of f #[.val (.ref a1)] (plainFor_of_name pn_4) (fun m => by first | rfl | (simp [entryFrame, mkF, argsToLocals, Value.category]; done)) Zf ?_
  intro C H hX0
  refine r_aloadN H 1 d_g19_9_0 rfl rfl rfl ?_
  refine r_getf H 4 d_g19_9_1 (tw45 hw) Via.refl F_hostId_a1 rfl ?_
  exact r_nreturn (1 : Int32) H (by simp) d_g19_9_4 (by decide) (by decide) (by decide) (Nat.le_refl _) (fun _ t => t) (⟨rfl, rfl⟩)
def Q_init_25 (Z : State) (a1 : Addr) (a2 : Addr) (h0 : Heap) (v : Option Value) (h : Heap) : Prop := v = none ∧ Keep h0 h [a1] ∧ Exa Z h a1 "com/example/valuta/valuta/api/TextField" ∧ Fld Z h a1 "com/example/valuta/valuta/api/TextField" "hostId" "Z" (.int (1 : Int32)) ∧ Fld Z h a1 "com/example/valuta/valuta/api/TextField" "maxLength" "I" (.int (64 : Int32)) ∧ Fld Z h a1 "com/example/valuta/valuta/api/TextField" "name" "Ljava/lang/String;" (.ref a2)
def R_init_25 : Room := { frames := 2, cells := 0, slots := 0, locals := 24 }
theorem rm_init_25 {w : Bool} {Z : State} {a0 : Array Value} (hw : ∀ d ∈ tables_1, d.before a0 Z = true) (Ts : List String) (a1 : Addr) (a2 : Addr) (h0 : Heap) (f : Nat) (Zf : Z.heap.size ≤ f) (Z0 : f ≤ h0.size) (E_a1 : Exa Z h0 a1 "com/example/valuta/valuta/api/TextField") (F_name_a1 : Fld Z h0 a1 "com/example/valuta/valuta/api/TextField" "name" "Ljava/lang/String;" .null) (g_a1 : f ≤ a1) (F_maxLength_a1 : Fld Z h0 a1 "com/example/valuta/valuta/api/TextField" "maxLength" "I" (.int (0 : Int32))) (F_hostId_a1 : Fld Z h0 a1 "com/example/valuta/valuta/api/TextField" "hostId" "Z" (.int (0 : Int32))) :
    Con w [] Z (⟨"com/example/valuta/valuta/api/TextField", "<init>", "(Ljava/lang/String;IZ)V"⟩ : MethodName) prog_19_method_2_code 4 none R_init_25 Ts Ts f #[(.ref a1), (.ref a2), (.int (64 : Int32)), (.int (1 : Int32))] h0 (Q_init_25 Z a1 a2 h0) := by
  refine con_of f #[.val (.ref a1), .val (.ref a2), .val (.int (64 : Int32)), .val (.int (1 : Int32))] (plainFor_of_name pn_4) (fun m => by first | rfl | (simp [entryFrame, mkF, argsToLocals, Value.category]; done)) Zf ?_
  intro C H hX0
  refine r_aloadN H 1 d_g19_2_0 rfl rfl rfl ?_
  refine r_special H 4 (a := a1) d_g19_2_1 (tw35 hw) (tw36 hw) (tw38 hw) (tw39 hw) (by decide) rfl (lenOf pd_9 rfl) (rm_init_14 hw Ts a1 h0 f Zf Z0) (argsL := []) (rest := []) rfl (W := 0) (Nat.le_of_eq rfl) rfl (by decide) (by decide) (by decide) (by decide) (Nat.le_refl _) rfl ?_
  rintro _ _ ⟨rfl, rfl⟩
  refine r_aloadN H 5 d_g19_2_4 rfl rfl rfl ?_
  refine r_aloadN H 6 d_g19_2_5 rfl rfl rfl ?_
  refine r_putf H 9 d_g19_2_6 (tw41 hw) Via.refl F_name_a1 E_a1 (Or.inr ⟨(tw42 hw), rfl, rfl⟩) (tw31 hw) (ty := (.object "java/lang/String")) (by decide) rfl rfl g_a1 rfl ?_
  intro h2 W2 K2 E2 F2
  refine r_aloadN H 10 d_g19_2_9 rfl rfl rfl ?_
  refine r_iloadN H 11 d_g19_2_10 rfl rfl ?_
  have q3 := (F_maxLength_a1.other W2 (Or.inr (slot_ne (Or.inr (tw44 hw)) (Or.inr (tw42 hw)) (by decide) (t := .int) (t' := (.object "java/lang/String")) (by decide) (by decide))))
  refine r_putf H 14 d_g19_2_11 (tw43 hw) Via.refl q3 E2 (Or.inr ⟨(tw44 hw), rfl, rfl⟩) (tw31 hw) (ty := .int) (by decide) rfl rfl g_a1 rfl ?_
  intro h4 W4 K4 E4 F4
  refine r_aloadN H 15 d_g19_2_14 rfl rfl rfl ?_
  refine r_iloadN H 16 d_g19_2_15 rfl rfl ?_
  have q5 := ((F_hostId_a1.other W2 (Or.inr (slot_ne (Or.inr (tw46 hw)) (Or.inr (tw42 hw)) (by decide) (t := .boolean) (t' := (.object "java/lang/String")) (by decide) (by decide)))).other W4 (Or.inr (slot_ne (Or.inr (tw46 hw)) (Or.inr (tw44 hw)) (by decide) (t := .boolean) (t' := .int) (by decide) (by decide))))
  refine r_putn H 19 (v' := (.int (1 : Int32))) d_g19_2_16 (tw45 hw) Via.refl q5 E4 (Or.inr ⟨(tw46 hw), rfl, rfl⟩) (tw31 hw) (ty := .boolean) (by decide) rfl (by decide) g_a1 rfl ?_
  intro h6 W6 K6 E6 F6
  have k7 : Keep h0 h2 [a1] := Keep.trans (Keep.refl h0 [a1]) K2 (allS (Or.inl (List.mem_of_getElem? (i := 0) rfl)) all0)
  have k8 : Keep h0 h4 [a1] := Keep.trans k7 K4 (allS (Or.inl (List.mem_of_getElem? (i := 0) rfl)) all0)
  have k9 : Keep h0 h6 [a1] := Keep.trans k8 K6 (allS (Or.inl (List.mem_of_getElem? (i := 0) rfl)) all0)
  have q10 := (F4.other W6 (Or.inr (slot_ne (Or.inr (tw44 hw)) (Or.inr (tw46 hw)) (by decide) (t := .int) (t' := .boolean) (by decide) (by decide))))
  have q11 := ((F2.other W4 (Or.inr (slot_ne (Or.inr (tw42 hw)) (Or.inr (tw44 hw)) (by decide) (t := (.object "java/lang/String")) (t' := .int) (by decide) (by decide)))).other W6 (Or.inr (slot_ne (Or.inr (tw42 hw)) (Or.inr (tw46 hw)) (by decide) (t := (.object "java/lang/String")) (t' := .boolean) (by decide) (by decide))))
  exact r_return H d_g19_2_19 (by decide) (by decide) (Nat.le_refl _) (fun _ t => t) (⟨rfl, k9, E6, F6, q10, q11⟩)
def Q_hostId_24 (Z : State) (a1 : Addr) (h0 : Heap) (v : Option Value) (h : Heap) : Prop := ∃ (b1 : Addr), v = some (.ref b1) ∧ Keep h0 h [] ∧ h0.size ≤ b1 ∧ Exa Z h b1 "com/example/valuta/valuta/api/TextField" ∧ Fld Z h b1 "com/example/valuta/valuta/api/TextField" "hostId" "Z" (.int (1 : Int32)) ∧ Fld Z h b1 "com/example/valuta/valuta/api/TextField" "maxLength" "I" (.int (64 : Int32)) ∧ Fld Z h b1 "com/example/valuta/valuta/api/TextField" "name" "Ljava/lang/String;" (.ref a1)
def R_hostId_24 : Room := { frames := 3, cells := 1, slots := 3, locals := 40 }
theorem rm_hostId_24 {w : Bool} {Z : State} {a0 : Array Value} (hw : ∀ d ∈ tables_1, d.before a0 Z = true) (Ts : List String) (a1 : Addr) (h0 : Heap) (f : Nat) (Zf : Z.heap.size ≤ f) (Z0 : f ≤ h0.size) :
    Con w [] Z (⟨"com/example/valuta/valuta/api/TextField", "hostId", "(Ljava/lang/String;)Lcom/example/valuta/valuta/api/TextField;"⟩ : MethodName) prog_19_method_3_code 1 (some (.object "com/example/valuta/valuta/api/TextField")) R_hostId_24 Ts Ts f #[(.ref a1)] h0 (Q_hostId_24 Z a1 h0) := by
  refine con_of f #[.val (.ref a1)] (plainFor_of_name pn_4) (fun m => by first | rfl | (simp [entryFrame, mkF, argsToLocals, Value.category]; done)) Zf ?_
  intro C H hX0
  refine r_new H 3 d_g19_3_0 (tw30 hw) (tw31 hw) (tw28 hw) (by decide) (by decide) rfl ?_
  intro h1 b1 g1 l1 K1 E1 D1
  refine r_dup H 4 d_g19_3_3 rfl rfl ?_
  refine r_aloadN H 5 d_g19_3_4 rfl rfl rfl ?_
  refine r_bipush H 7 (64 : Int32) d_g19_3_5 (by decide) rfl ?_
  refine r_iconst H 8 (1 : Int32) d_g19_3_7 (by decide) rfl ?_
  refine r_special H 11 (a := b1) d_g19_3_8 (tw32 hw) (tw33 hw) (tw28 hw) (tw34 hw) (by decide) rfl (lenOf pd_10 rfl) (rm_init_25 hw Ts b1 a1 h1 f Zf (Nat.le_trans Z0 K1.1) E1 (show Fld Z h1 b1 "com/example/valuta/valuta/api/TextField" "name" "Ljava/lang/String;" .null from D1 (Or.inr (tw42 hw)) (ty := (.object "java/lang/String")) (by decide)) (Nat.le_trans Z0 (Nat.le_of_eq g1.symm)) (show Fld Z h1 b1 "com/example/valuta/valuta/api/TextField" "maxLength" "I" (.int (0 : Int32)) from D1 (Or.inr (tw44 hw)) (ty := .int) (by decide)) (show Fld Z h1 b1 "com/example/valuta/valuta/api/TextField" "hostId" "Z" (.int (0 : Int32)) from D1 (Or.inr (tw46 hw)) (ty := .boolean) (by decide))) (argsL := [(.ref a1), (.int (64 : Int32)), (.int (1 : Int32))]) (rest := [(.ref b1)]) rfl (W := 1) (Nat.le_of_eq rfl) rfl (by decide) (by decide) (by decide) (by decide) (Nat.le_refl _) rfl ?_
  rintro _ hh7 ⟨rfl, K2, q3, q4, q5, q6⟩
  have k8 : Keep h0 h1 [] := Keep.trans (Keep.refl h0 []) K1 all0
  have k9 : Keep h0 hh7 [] := Keep.trans k8 K2 (allS (Or.inr (Nat.le_trans (Nat.le_refl _) (Nat.le_of_eq g1.symm))) all0)
  exact r_areturn H rfl rfl d_g19_3_11 (by decide) (by decide) (Nat.le_refl _) (fun _ t => t) (⟨b1, rfl, k9, (Nat.le_trans (Nat.le_refl _) (Nat.le_of_eq g1.symm)), q3, q4, q5, q6⟩)
def Q_name_26 (Z : State) (a2 : Addr) (h0 : Heap) (v : Option Value) (h : Heap) : Prop := v = some (.ref a2) ∧ h0 = h
def R_name_26 : Room := { frames := 0, cells := 0, slots := 0, locals := 0 }
theorem rm_name_26 {w : Bool} {Z : State} {a0 : Array Value} (hw : ∀ d ∈ tables_1, d.before a0 Z = true) (Ts : List String) (a1 : Addr) (a2 : Addr) (h0 : Heap) (f : Nat) (Zf : Z.heap.size ≤ f) (Z0 : f ≤ h0.size) (F_name_a1 : Fld Z h0 a1 "com/example/valuta/valuta/api/TextField" "name" "Ljava/lang/String;" (.ref a2)) :
    Con w [] Z (⟨"com/example/valuta/valuta/api/TextField", "name", "()Ljava/lang/String;"⟩ : MethodName) prog_19_method_7_code 1 (some (.object "java/lang/String")) R_name_26 Ts Ts f #[(.ref a1)] h0 (Q_name_26 Z a2 h0) := by
  refine con_of f #[.val (.ref a1)] (plainFor_of_name pn_4) (fun m => by first | rfl | (simp [entryFrame, mkF, argsToLocals, Value.category]; done)) Zf ?_
  intro C H hX0
  refine r_aloadN H 1 d_g19_7_0 rfl rfl rfl ?_
  refine r_getf H 4 d_g19_7_1 (tw41 hw) Via.refl F_name_a1 rfl ?_
  exact r_areturn H rfl rfl d_g19_7_4 (by decide) (by decide) (Nat.le_refl _) (fun _ t => t) (⟨rfl, rfl⟩)
def Q_equals_27 (Z : State) (h0 : Heap) (v : Option Value) (h : Heap) : Prop := v = some (.int (1 : Int32)) ∧ h0 = h
def R_equals_27 : Room := { frames := 0, cells := 0, slots := 0, locals := 0 }
theorem rm_equals_27 {w : Bool} {Z : State} {a0 : Array Value} (hw : ∀ d ∈ tables_1, d.before a0 Z = true) (Ts : List String) (a1 : Addr) (h0 : Heap) (f : Nat) (Zf : Z.heap.size ≤ f) (Z0 : f ≤ h0.size) :
    Con w [] Z (⟨"java/lang/String", "equals", "(Ljava/lang/Object;)Z"⟩ : MethodName) jdk_42_method_66_code 3 (some .boolean) R_equals_27 Ts Ts f #[(.ref a1), (.ref a1)] h0 (Q_equals_27 Z h0) := by
  refine con_of f #[.val (.ref a1), .val (.ref a1), .unset] (plainFor_of_name pn_1) (fun m => by first | rfl | (simp [entryFrame, mkF, argsToLocals, Value.category]; done)) Zf ?_
  intro C H hX0
  refine r_aloadN H 1 d_j42_66_0 rfl rfl rfl ?_
  refine r_aloadN H 2 d_j42_66_1 rfl rfl rfl ?_
  refine r_acmp H 5 true d_j42_66_2 rfl rfl (decide_eq_true rfl) (by decide) (by decide) ?_
  refine r_iconst H 6 (1 : Int32) d_j42_66_5 (by decide) rfl ?_
  exact r_nreturn (1 : Int32) H (by simp) d_j42_66_6 (by decide) (by decide) (by decide) (Nat.le_refl _) (fun _ t => t) (⟨rfl, rfl⟩)
def Q_maxLength_28 (Z : State) (h0 : Heap) (v : Option Value) (h : Heap) : Prop := v = some (.int (64 : Int32)) ∧ h0 = h
def R_maxLength_28 : Room := { frames := 0, cells := 0, slots := 0, locals := 0 }
theorem rm_maxLength_28 {w : Bool} {Z : State} {a0 : Array Value} (hw : ∀ d ∈ tables_1, d.before a0 Z = true) (Ts : List String) (a1 : Addr) (h0 : Heap) (f : Nat) (Zf : Z.heap.size ≤ f) (Z0 : f ≤ h0.size) (F_maxLength_a1 : Fld Z h0 a1 "com/example/valuta/valuta/api/TextField" "maxLength" "I" (.int (64 : Int32))) :
    Con w [] Z (⟨"com/example/valuta/valuta/api/TextField", "maxLength", "()I"⟩ : MethodName) prog_19_method_8_code 1 (some .int) R_maxLength_28 Ts Ts f #[(.ref a1)] h0 (Q_maxLength_28 Z h0) := by
  refine con_of f #[.val (.ref a1)] (plainFor_of_name pn_4) (fun m => by first | rfl | (simp [entryFrame, mkF, argsToLocals, Value.category]; done)) Zf ?_
  intro C H hX0
  refine r_aloadN H 1 d_g19_8_0 rfl rfl rfl ?_
  refine r_getf H 4 d_g19_8_1 (tw43 hw) Via.refl F_maxLength_a1 rfl ?_
  exact r_ireturn H d_g19_8_4 (by decide) (by decide) (Nat.le_refl _) (fun _ t => t) (⟨rfl, rfl⟩)
def Q_hostId_29 (Z : State) (h0 : Heap) (v : Option Value) (h : Heap) : Prop := v = some (.int (1 : Int32)) ∧ h0 = h
def R_hostId_29 : Room := { frames := 0, cells := 0, slots := 0, locals := 0 }
theorem rm_hostId_29 {w : Bool} {Z : State} {a0 : Array Value} (hw : ∀ d ∈ tables_1, d.before a0 Z = true) (Ts : List String) (a1 : Addr) (h0 : Heap) (f : Nat) (Zf : Z.heap.size ≤ f) (Z0 : f ≤ h0.size) (F_hostId_a1 : Fld Z h0 a1 "com/example/valuta/valuta/api/TextField" "hostId" "Z" (.int (1 : Int32))) :
    Con w [] Z (⟨"com/example/valuta/valuta/api/TextField", "hostId", "()Z"⟩ : MethodName) prog_19_method_9_code 1 (some .boolean) R_hostId_29 Ts Ts f #[(.ref a1)] h0 (Q_hostId_29 Z h0) := by
  refine con_of f #[.val (.ref a1)] (plainFor_of_name pn_4) (fun m => by first | rfl | (simp [entryFrame, mkF, argsToLocals, Value.category]; done)) Zf ?_
  intro C H hX0
  refine r_aloadN H 1 d_g19_9_0 rfl rfl rfl ?_
  refine r_getf H 4 d_g19_9_1 (tw45 hw) Via.refl F_hostId_a1 rfl ?_
  exact r_nreturn (1 : Int32) H (by simp) d_g19_9_4 (by decide) (by decide) (by decide) (Nat.le_refl _) (fun _ t => t) (⟨rfl, rfl⟩)
def Q_init_31 (Z : State) (a1 : Addr) (a2 : Addr) (h0 : Heap) (v : Option Value) (h : Heap) : Prop := v = none ∧ Keep h0 h [a1] ∧ Exa Z h a1 "com/example/valuta/valuta/api/TextField" ∧ Fld Z h a1 "com/example/valuta/valuta/api/TextField" "hostId" "Z" (.int (1 : Int32)) ∧ Fld Z h a1 "com/example/valuta/valuta/api/TextField" "maxLength" "I" (.int (64 : Int32)) ∧ Fld Z h a1 "com/example/valuta/valuta/api/TextField" "name" "Ljava/lang/String;" (.ref a2)
def R_init_31 : Room := { frames := 2, cells := 0, slots := 0, locals := 24 }
theorem rm_init_31 {w : Bool} {Z : State} {a0 : Array Value} (hw : ∀ d ∈ tables_1, d.before a0 Z = true) (Ts : List String) (a1 : Addr) (a2 : Addr) (h0 : Heap) (f : Nat) (Zf : Z.heap.size ≤ f) (Z0 : f ≤ h0.size) (E_a1 : Exa Z h0 a1 "com/example/valuta/valuta/api/TextField") (F_name_a1 : Fld Z h0 a1 "com/example/valuta/valuta/api/TextField" "name" "Ljava/lang/String;" .null) (g_a1 : f ≤ a1) (F_maxLength_a1 : Fld Z h0 a1 "com/example/valuta/valuta/api/TextField" "maxLength" "I" (.int (0 : Int32))) (F_hostId_a1 : Fld Z h0 a1 "com/example/valuta/valuta/api/TextField" "hostId" "Z" (.int (0 : Int32))) :
    Con w [] Z (⟨"com/example/valuta/valuta/api/TextField", "<init>", "(Ljava/lang/String;IZ)V"⟩ : MethodName) prog_19_method_2_code 4 none R_init_31 Ts Ts f #[(.ref a1), (.ref a2), (.int (64 : Int32)), (.int (1 : Int32))] h0 (Q_init_31 Z a1 a2 h0) := by
  refine con_of f #[.val (.ref a1), .val (.ref a2), .val (.int (64 : Int32)), .val (.int (1 : Int32))] (plainFor_of_name pn_4) (fun m => by first | rfl | (simp [entryFrame, mkF, argsToLocals, Value.category]; done)) Zf ?_
  intro C H hX0
  refine r_aloadN H 1 d_g19_2_0 rfl rfl rfl ?_
  refine r_special H 4 (a := a1) d_g19_2_1 (tw35 hw) (tw36 hw) (tw38 hw) (tw39 hw) (by decide) rfl (lenOf pd_9 rfl) (rm_init_14 hw Ts a1 h0 f Zf Z0) (argsL := []) (rest := []) rfl (W := 0) (Nat.le_of_eq rfl) rfl (by decide) (by decide) (by decide) (by decide) (Nat.le_refl _) rfl ?_
  rintro _ _ ⟨rfl, rfl⟩
  refine r_aloadN H 5 d_g19_2_4 rfl rfl rfl ?_
  refine r_aloadN H 6 d_g19_2_5 rfl rfl rfl ?_
  refine r_putf H 9 d_g19_2_6 (tw41 hw) Via.refl F_name_a1 E_a1 (Or.inr ⟨(tw42 hw), rfl, rfl⟩) (tw31 hw) (ty := (.object "java/lang/String")) (by decide) rfl rfl g_a1 rfl ?_
  intro h2 W2 K2 E2 F2
  refine r_aloadN H 10 d_g19_2_9 rfl rfl rfl ?_
  refine r_iloadN H 11 d_g19_2_10 rfl rfl ?_
  have q3 := (F_maxLength_a1.other W2 (Or.inr (slot_ne (Or.inr (tw44 hw)) (Or.inr (tw42 hw)) (by decide) (t := .int) (t' := (.object "java/lang/String")) (by decide) (by decide))))
  refine r_putf H 14 d_g19_2_11 (tw43 hw) Via.refl q3 E2 (Or.inr ⟨(tw44 hw), rfl, rfl⟩) (tw31 hw) (ty := .int) (by decide) rfl rfl g_a1 rfl ?_
  intro h4 W4 K4 E4 F4
  refine r_aloadN H 15 d_g19_2_14 rfl rfl rfl ?_
  refine r_iloadN H 16 d_g19_2_15 rfl rfl ?_
  have q5 := ((F_hostId_a1.other W2 (Or.inr (slot_ne (Or.inr (tw46 hw)) (Or.inr (tw42 hw)) (by decide) (t := .boolean) (t' := (.object "java/lang/String")) (by decide) (by decide)))).other W4 (Or.inr (slot_ne (Or.inr (tw46 hw)) (Or.inr (tw44 hw)) (by decide) (t := .boolean) (t' := .int) (by decide) (by decide))))
  refine r_putn H 19 (v' := (.int (1 : Int32))) d_g19_2_16 (tw45 hw) Via.refl q5 E4 (Or.inr ⟨(tw46 hw), rfl, rfl⟩) (tw31 hw) (ty := .boolean) (by decide) rfl (by decide) g_a1 rfl ?_
  intro h6 W6 K6 E6 F6
  have k7 : Keep h0 h2 [a1] := Keep.trans (Keep.refl h0 [a1]) K2 (allS (Or.inl (List.mem_of_getElem? (i := 0) rfl)) all0)
  have k8 : Keep h0 h4 [a1] := Keep.trans k7 K4 (allS (Or.inl (List.mem_of_getElem? (i := 0) rfl)) all0)
  have k9 : Keep h0 h6 [a1] := Keep.trans k8 K6 (allS (Or.inl (List.mem_of_getElem? (i := 0) rfl)) all0)
  have q10 := (F4.other W6 (Or.inr (slot_ne (Or.inr (tw44 hw)) (Or.inr (tw46 hw)) (by decide) (t := .int) (t' := .boolean) (by decide) (by decide))))
  have q11 := ((F2.other W4 (Or.inr (slot_ne (Or.inr (tw42 hw)) (Or.inr (tw44 hw)) (by decide) (t := (.object "java/lang/String")) (t' := .int) (by decide) (by decide)))).other W6 (Or.inr (slot_ne (Or.inr (tw42 hw)) (Or.inr (tw46 hw)) (by decide) (t := (.object "java/lang/String")) (t' := .boolean) (by decide) (by decide))))
  exact r_return H d_g19_2_19 (by decide) (by decide) (Nat.le_refl _) (fun _ t => t) (⟨rfl, k9, E6, F6, q10, q11⟩)
def Q_hostId_30 (Z : State) (a1 : Addr) (h0 : Heap) (v : Option Value) (h : Heap) : Prop := ∃ (b1 : Addr), v = some (.ref b1) ∧ Keep h0 h [] ∧ h0.size ≤ b1 ∧ Exa Z h b1 "com/example/valuta/valuta/api/TextField" ∧ Fld Z h b1 "com/example/valuta/valuta/api/TextField" "hostId" "Z" (.int (1 : Int32)) ∧ Fld Z h b1 "com/example/valuta/valuta/api/TextField" "maxLength" "I" (.int (64 : Int32)) ∧ Fld Z h b1 "com/example/valuta/valuta/api/TextField" "name" "Ljava/lang/String;" (.ref a1)
def R_hostId_30 : Room := { frames := 3, cells := 1, slots := 3, locals := 40 }
theorem rm_hostId_30 {w : Bool} {Z : State} {a0 : Array Value} (hw : ∀ d ∈ tables_1, d.before a0 Z = true) (Ts : List String) (a1 : Addr) (h0 : Heap) (f : Nat) (Zf : Z.heap.size ≤ f) (Z0 : f ≤ h0.size) :
    Con w [] Z (⟨"com/example/valuta/valuta/api/TextField", "hostId", "(Ljava/lang/String;)Lcom/example/valuta/valuta/api/TextField;"⟩ : MethodName) prog_19_method_3_code 1 (some (.object "com/example/valuta/valuta/api/TextField")) R_hostId_30 Ts Ts f #[(.ref a1)] h0 (Q_hostId_30 Z a1 h0) := by
  refine con_of f #[.val (.ref a1)] (plainFor_of_name pn_4) (fun m => by first | rfl | (simp [entryFrame, mkF, argsToLocals, Value.category]; done)) Zf ?_
  intro C H hX0
  refine r_new H 3 d_g19_3_0 (tw30 hw) (tw31 hw) (tw28 hw) (by decide) (by decide) rfl ?_
  intro h1 b1 g1 l1 K1 E1 D1
  refine r_dup H 4 d_g19_3_3 rfl rfl ?_
  refine r_aloadN H 5 d_g19_3_4 rfl rfl rfl ?_
  refine r_bipush H 7 (64 : Int32) d_g19_3_5 (by decide) rfl ?_
  refine r_iconst H 8 (1 : Int32) d_g19_3_7 (by decide) rfl ?_
  refine r_special H 11 (a := b1) d_g19_3_8 (tw32 hw) (tw33 hw) (tw28 hw) (tw34 hw) (by decide) rfl (lenOf pd_10 rfl) (rm_init_31 hw Ts b1 a1 h1 f Zf (Nat.le_trans Z0 K1.1) E1 (show Fld Z h1 b1 "com/example/valuta/valuta/api/TextField" "name" "Ljava/lang/String;" .null from D1 (Or.inr (tw42 hw)) (ty := (.object "java/lang/String")) (by decide)) (Nat.le_trans Z0 (Nat.le_of_eq g1.symm)) (show Fld Z h1 b1 "com/example/valuta/valuta/api/TextField" "maxLength" "I" (.int (0 : Int32)) from D1 (Or.inr (tw44 hw)) (ty := .int) (by decide)) (show Fld Z h1 b1 "com/example/valuta/valuta/api/TextField" "hostId" "Z" (.int (0 : Int32)) from D1 (Or.inr (tw46 hw)) (ty := .boolean) (by decide))) (argsL := [(.ref a1), (.int (64 : Int32)), (.int (1 : Int32))]) (rest := [(.ref b1)]) rfl (W := 1) (Nat.le_of_eq rfl) rfl (by decide) (by decide) (by decide) (by decide) (Nat.le_refl _) rfl ?_
  rintro _ hh7 ⟨rfl, K2, q3, q4, q5, q6⟩
  have k8 : Keep h0 h1 [] := Keep.trans (Keep.refl h0 []) K1 all0
  have k9 : Keep h0 hh7 [] := Keep.trans k8 K2 (allS (Or.inr (Nat.le_trans (Nat.le_refl _) (Nat.le_of_eq g1.symm))) all0)
  exact r_areturn H rfl rfl d_g19_3_11 (by decide) (by decide) (Nat.le_refl _) (fun _ t => t) (⟨b1, rfl, k9, (Nat.le_trans (Nat.le_refl _) (Nat.le_of_eq g1.symm)), q3, q4, q5, q6⟩)
def Q_name_32 (Z : State) (a2 : Addr) (h0 : Heap) (v : Option Value) (h : Heap) : Prop := v = some (.ref a2) ∧ h0 = h
def R_name_32 : Room := { frames := 0, cells := 0, slots := 0, locals := 0 }
theorem rm_name_32 {w : Bool} {Z : State} {a0 : Array Value} (hw : ∀ d ∈ tables_1, d.before a0 Z = true) (Ts : List String) (a1 : Addr) (a2 : Addr) (h0 : Heap) (f : Nat) (Zf : Z.heap.size ≤ f) (Z0 : f ≤ h0.size) (F_name_a1 : Fld Z h0 a1 "com/example/valuta/valuta/api/TextField" "name" "Ljava/lang/String;" (.ref a2)) :
    Con w [] Z (⟨"com/example/valuta/valuta/api/TextField", "name", "()Ljava/lang/String;"⟩ : MethodName) prog_19_method_7_code 1 (some (.object "java/lang/String")) R_name_32 Ts Ts f #[(.ref a1)] h0 (Q_name_32 Z a2 h0) := by
  refine con_of f #[.val (.ref a1)] (plainFor_of_name pn_4) (fun m => by first | rfl | (simp [entryFrame, mkF, argsToLocals, Value.category]; done)) Zf ?_
  intro C H hX0
  refine r_aloadN H 1 d_g19_7_0 rfl rfl rfl ?_
  refine r_getf H 4 d_g19_7_1 (tw41 hw) Via.refl F_name_a1 rfl ?_
  exact r_areturn H rfl rfl d_g19_7_4 (by decide) (by decide) (Nat.le_refl _) (fun _ t => t) (⟨rfl, rfl⟩)
def Q_equals_33 (Z : State) (h0 : Heap) (v : Option Value) (h : Heap) : Prop := v = some (.int (1 : Int32)) ∧ h0 = h
def R_equals_33 : Room := { frames := 0, cells := 0, slots := 0, locals := 0 }
theorem rm_equals_33 {w : Bool} {Z : State} {a0 : Array Value} (hw : ∀ d ∈ tables_1, d.before a0 Z = true) (Ts : List String) (a1 : Addr) (h0 : Heap) (f : Nat) (Zf : Z.heap.size ≤ f) (Z0 : f ≤ h0.size) :
    Con w [] Z (⟨"java/lang/String", "equals", "(Ljava/lang/Object;)Z"⟩ : MethodName) jdk_42_method_66_code 3 (some .boolean) R_equals_33 Ts Ts f #[(.ref a1), (.ref a1)] h0 (Q_equals_33 Z h0) := by
  refine con_of f #[.val (.ref a1), .val (.ref a1), .unset] (plainFor_of_name pn_1) (fun m => by first | rfl | (simp [entryFrame, mkF, argsToLocals, Value.category]; done)) Zf ?_
  intro C H hX0
  refine r_aloadN H 1 d_j42_66_0 rfl rfl rfl ?_
  refine r_aloadN H 2 d_j42_66_1 rfl rfl rfl ?_
  refine r_acmp H 5 true d_j42_66_2 rfl rfl (decide_eq_true rfl) (by decide) (by decide) ?_
  refine r_iconst H 6 (1 : Int32) d_j42_66_5 (by decide) rfl ?_
  exact r_nreturn (1 : Int32) H (by simp) d_j42_66_6 (by decide) (by decide) (by decide) (Nat.le_refl _) (fun _ t => t) (⟨rfl, rfl⟩)
def Q_maxLength_34 (Z : State) (h0 : Heap) (v : Option Value) (h : Heap) : Prop := v = some (.int (64 : Int32)) ∧ h0 = h
def R_maxLength_34 : Room := { frames := 0, cells := 0, slots := 0, locals := 0 }
theorem rm_maxLength_34 {w : Bool} {Z : State} {a0 : Array Value} (hw : ∀ d ∈ tables_1, d.before a0 Z = true) (Ts : List String) (a1 : Addr) (h0 : Heap) (f : Nat) (Zf : Z.heap.size ≤ f) (Z0 : f ≤ h0.size) (F_maxLength_a1 : Fld Z h0 a1 "com/example/valuta/valuta/api/TextField" "maxLength" "I" (.int (64 : Int32))) :
    Con w [] Z (⟨"com/example/valuta/valuta/api/TextField", "maxLength", "()I"⟩ : MethodName) prog_19_method_8_code 1 (some .int) R_maxLength_34 Ts Ts f #[(.ref a1)] h0 (Q_maxLength_34 Z h0) := by
  refine con_of f #[.val (.ref a1)] (plainFor_of_name pn_4) (fun m => by first | rfl | (simp [entryFrame, mkF, argsToLocals, Value.category]; done)) Zf ?_
  intro C H hX0
  refine r_aloadN H 1 d_g19_8_0 rfl rfl rfl ?_
  refine r_getf H 4 d_g19_8_1 (tw43 hw) Via.refl F_maxLength_a1 rfl ?_
  exact r_ireturn H d_g19_8_4 (by decide) (by decide) (Nat.le_refl _) (fun _ t => t) (⟨rfl, rfl⟩)
def Q_hostId_35 (Z : State) (h0 : Heap) (v : Option Value) (h : Heap) : Prop := v = some (.int (1 : Int32)) ∧ h0 = h
def R_hostId_35 : Room := { frames := 0, cells := 0, slots := 0, locals := 0 }
theorem rm_hostId_35 {w : Bool} {Z : State} {a0 : Array Value} (hw : ∀ d ∈ tables_1, d.before a0 Z = true) (Ts : List String) (a1 : Addr) (h0 : Heap) (f : Nat) (Zf : Z.heap.size ≤ f) (Z0 : f ≤ h0.size) (F_hostId_a1 : Fld Z h0 a1 "com/example/valuta/valuta/api/TextField" "hostId" "Z" (.int (1 : Int32))) :
    Con w [] Z (⟨"com/example/valuta/valuta/api/TextField", "hostId", "()Z"⟩ : MethodName) prog_19_method_9_code 1 (some .boolean) R_hostId_35 Ts Ts f #[(.ref a1)] h0 (Q_hostId_35 Z h0) := by
  refine con_of f #[.val (.ref a1)] (plainFor_of_name pn_4) (fun m => by first | rfl | (simp [entryFrame, mkF, argsToLocals, Value.category]; done)) Zf ?_
  intro C H hX0
  refine r_aloadN H 1 d_g19_9_0 rfl rfl rfl ?_
  refine r_getf H 4 d_g19_9_1 (tw45 hw) Via.refl F_hostId_a1 rfl ?_
  exact r_nreturn (1 : Int32) H (by simp) d_g19_9_4 (by decide) (by decide) (by decide) (Nat.le_refl _) (fun _ t => t) (⟨rfl, rfl⟩)
set_option maxRecDepth 65536 in
set_option maxHeartbeats 40000000 in
theorem rm_law {Z : State} {a0 : Array Value} (hw : ∀ d ∈ tables_1, d.before a0 Z = true) (Ts : List String) (hTs : Ts = []) (x0 : Int32) (x1 : Int32) (x2 : Int32) (x3 : Int32) (cs : Int32) (h0 : Heap) (f : Nat) (Zf : Z.heap.size ≤ f) (Z0 : f ≤ h0.size) (S_cs : Sta Z Z.heap "java/lang/String" "COMPACT_STRINGS" "Z" (.int cs)) (wS : ∀ a ∈ Bundle.stringAtoms, a.before a0 Z = true) (hcw : Jvm.Lit.compactW.before a0 Z = true) (hh0 : Jvm.Lit.constHeld Z "java/lang/String" 7) (hcs : ¬ cs = 0) :
    Con true tables_1 Z x code maxLocals ret room_1 Ts ("" :: Ts) f #[(.int x0), (.int x1), (.int x2), (.int x3)] h0 (fun v _ => v = some (.int 1)) := by
  have hT_empty : "" ∉ Ts := by rw [hTs]; exact List.not_mem_nil
  refine con_of h0.size #[.val (.int x0), .val (.int x1), .val (.int x2), .val (.int x3), .unset, .unset, .unset, .unset, .unset, .unset, .unset, .unset] (plainFor_of_name pn_5) (fun m => by first | rfl | (simp [entryFrame, mkF, argsToLocals, Value.category, maxLocals]; done)) (Nat.le_trans Zf Z0) ?_
  intro C H hX0
  refine r_iloadN H 1 at_0 rfl rfl ?_
  refine r_sipush H 4 (255 : Int32) at_1 (by decide) rfl ?_
  obtain ⟨p1, ep1, rp1⟩ : ∃ p : Int32, (x0 &&& (255 : Int32)) = p ∧ 0 ≤ p.toInt ∧ p.toInt ≤ 255 := ⟨_, rfl, (by have h := c_and x0 (255 : Int32) (by decide); have : (255 : Int32).toInt = 255 := (by decide); omega)⟩
  refine r_iand H 5 p1 at_4 ep1 rfl ?_
  refine r_i2c H 6 p1 at_5 (i2c_id (by have := rp1; omega)) rfl ?_
  refine r_istore H 8 #[.val (.int x0), .val (.int x1), .val (.int x2), .val (.int x3), .val (.int p1), .unset, .unset, .unset, .unset, .unset, .unset, .unset] at_6 rfl rfl ?_
  refine r_iloadN H 9 at_8 rfl rfl ?_
  refine r_sipush H 12 (255 : Int32) at_9 (by decide) rfl ?_
  obtain ⟨p2, ep2, rp2⟩ : ∃ p : Int32, (x1 &&& (255 : Int32)) = p ∧ 0 ≤ p.toInt ∧ p.toInt ≤ 255 := ⟨_, rfl, (by have h := c_and x1 (255 : Int32) (by decide); have : (255 : Int32).toInt = 255 := (by decide); omega)⟩
  refine r_iand H 13 p2 at_12 ep2 rfl ?_
  refine r_i2c H 14 p2 at_13 (i2c_id (by have := rp2; omega)) rfl ?_
  refine r_istore H 16 #[.val (.int x0), .val (.int x1), .val (.int x2), .val (.int x3), .val (.int p1), .val (.int p2), .unset, .unset, .unset, .unset, .unset, .unset] at_14 rfl rfl ?_
  refine r_iloadN H 17 at_16 rfl rfl ?_
  refine r_sipush H 20 (255 : Int32) at_17 (by decide) rfl ?_
  obtain ⟨p3, ep3, rp3⟩ : ∃ p : Int32, (x2 &&& (255 : Int32)) = p ∧ 0 ≤ p.toInt ∧ p.toInt ≤ 255 := ⟨_, rfl, (by have h := c_and x2 (255 : Int32) (by decide); have : (255 : Int32).toInt = 255 := (by decide); omega)⟩
  refine r_iand H 21 p3 at_20 ep3 rfl ?_
  refine r_i2c H 22 p3 at_21 (i2c_id (by have := rp3; omega)) rfl ?_
  refine r_istore H 24 #[.val (.int x0), .val (.int x1), .val (.int x2), .val (.int x3), .val (.int p1), .val (.int p2), .val (.int p3), .unset, .unset, .unset, .unset, .unset] at_22 rfl rfl ?_
  refine r_iloadN H 25 at_24 rfl rfl ?_
  refine r_iconst H 26 (3 : Int32) at_25 (by decide) rfl ?_
  obtain ⟨p4, ep4, rp4⟩ : ∃ p : Int32, (x3 &&& (3 : Int32)) = p ∧ 0 ≤ p.toInt ∧ p.toInt ≤ 3 := ⟨_, rfl, (by have h := c_and x3 (3 : Int32) (by decide); have : (3 : Int32).toInt = 3 := (by decide); omega)⟩
  refine r_iand H 27 p4 at_26 ep4 rfl ?_
  refine r_istore H 29 #[.val (.int x0), .val (.int x1), .val (.int x2), .val (.int x3), .val (.int p1), .val (.int p2), .val (.int p3), .val (.int p4), .unset, .unset, .unset, .unset] at_27 rfl rfl ?_
  refine r_iload H 31 at_29 rfl rfl ?_
  refine r_ifne H 49 34 at_31 (by decide) (by decide) rfl (fun c5 => ?_) (fun c5 => ?_)
  · skip
    have rr6 : 1 ≤ p4.toInt ∧ p4.toInt ≤ 3 := by have := rp4; have : (0 : Int32).toInt = 0 := (by decide); have hc_ := c5; simp only [Int32.lt_iff_toInt_lt, ← Int32.toInt_inj] at hc_; omega
    refine r_iload H 51 at_49 rfl rfl ?_
    refine r_iconst H 52 (1 : Int32) at_51 (by decide) rfl ?_
    refine r_icmpne H 65 55 at_52 (by decide) (by decide) rfl (fun c7 => ?_) (fun c7 => ?_)
    · skip
      have rr8 : 2 ≤ p4.toInt ∧ p4.toInt ≤ 3 := by have := rr6; have : (1 : Int32).toInt = 1 := (by decide); have hc_ := c7; simp only [Int32.lt_iff_toInt_lt, ← Int32.toInt_inj] at hc_; omega
      refine r_iload H 67 at_65 rfl rfl ?_
      refine r_iconst H 68 (2 : Int32) at_67 (by decide) rfl ?_
      refine r_icmpne H 101 71 at_68 (by decide) (by decide) rfl (fun c9 => ?_) (fun c9 => ?_)
      · skip
        have rr10 : 3 ≤ p4.toInt ∧ p4.toInt ≤ 3 := by have := rr8; have : (2 : Int32).toInt = 2 := (by decide); have hc_ := c9; simp only [Int32.lt_iff_toInt_lt, ← Int32.toInt_inj] at hc_; omega
        refine r_null H 102 at_101 rfl ?_
        refine r_astore H 104 #[.val (.int x0), .val (.int x1), .val (.int x2), .val (.int x3), .val (.int p1), .val (.int p2), .val (.int p3), .val (.int p4), .val .null, .unset, .unset, .unset] at_102 rfl rfl rfl ?_
        refine r_aload H 106 at_104 rfl rfl rfl ?_
        refine r_static H 109 at_106 (tw26 hw) (tw27 hw) (tw28 hw) (tw29 hw) (by decide) (lenOf pd_11 rfl) (rm_hostId_12 hw Ts h0 h0.size (Nat.le_trans Zf Z0) (Nat.le_refl _)) (argsL := [.null]) (rest := []) rfl (W := 0) (Nat.le_of_eq rfl) rfl (by decide) (by decide) (by decide) (by decide) (Nat.le_refl _) rfl ?_
        rintro _ hh18 ⟨b11, rfl, K12, g13, q14, q15, q16, q17⟩
        refine r_astore H 111 #[.val (.int x0), .val (.int x1), .val (.int x2), .val (.int x3), .val (.int p1), .val (.int p2), .val (.int p3), .val (.int p4), .val .null, .val (.ref b11), .unset, .unset] at_109 rfl rfl rfl ?_
        refine r_aload H 113 at_111 rfl rfl rfl ?_
        refine r_virtual H 116 (z := (⟨"com/example/valuta/valuta/api/TextField", "name", "()Ljava/lang/String;"⟩ : MethodName)) (a := b11) at_113 (tw47 hw) (tw48 hw) (nf_sel (tw50 hw)) (tw50 hw) (tw49 hw) (tw28 hw) (tw51 hw) (by decide) q14 (lenOf pd_12 rfl) (rm_name_15 hw Ts b11 hh18 h0.size (Nat.le_trans Zf Z0) K12.1 q17) (argsL := []) (rest := []) rfl (W := 0) (Nat.le_of_eq rfl) rfl (by decide) (by decide) (by decide) (by decide) (Nat.le_refl _) rfl ?_
        rintro _ _ ⟨rfl, rfl⟩
        refine r_astore H 118 #[.val (.int x0), .val (.int x1), .val (.int x2), .val (.int x3), .val (.int p1), .val (.int p2), .val (.int p3), .val (.int p4), .val .null, .val (.ref b11), .val .null, .unset] at_116 rfl rfl rfl ?_
        refine r_aload H 120 at_118 rfl rfl rfl ?_
        refine r_ifnonnullF H 123 at_120 rfl ?_
        refine r_aload H 125 at_123 rfl rfl rfl ?_
        refine r_ifnonnullF H 128 at_125 rfl ?_
        refine r_iconst H 129 (1 : Int32) at_128 (by decide) rfl ?_
        refine r_goto H 133 at_129 (by decide) (by decide) ?_
        refine r_istore H 135 #[.val (.int x0), .val (.int x1), .val (.int x2), .val (.int x3), .val (.int p1), .val (.int p2), .val (.int p3), .val (.int p4), .val .null, .val (.ref b11), .val .null, .val (.int (1 : Int32))] at_133 rfl rfl ?_
        refine r_goto H 160 at_135 (by decide) (by decide) ?_
        refine r_iload H 162 at_160 rfl rfl ?_
        refine r_ifeqF H 165 at_162 rfl (by decide) ?_
        refine r_aload H 167 at_165 rfl rfl rfl ?_
        refine r_virtual H 170 (z := (⟨"com/example/valuta/valuta/api/TextField", "maxLength", "()I"⟩ : MethodName)) (a := b11) at_167 (tw57 hw) (tw58 hw) (nf_sel (tw60 hw)) (tw60 hw) (tw59 hw) (tw28 hw) (tw61 hw) (by decide) q14 (lenOf pd_13 rfl) (rm_maxLength_16 hw Ts b11 hh18 h0.size (Nat.le_trans Zf Z0) K12.1 q16) (argsL := []) (rest := []) rfl (W := 0) (Nat.le_of_eq rfl) rfl (by decide) (by decide) (by decide) (by decide) (Nat.le_refl _) rfl ?_
        rintro _ _ ⟨rfl, rfl⟩
        refine r_bipush H 172 (64 : Int32) at_170 (by decide) rfl ?_
        refine r_icmpneF H 175 at_172 rfl (by decide) ?_
        refine r_aload H 177 at_175 rfl rfl rfl ?_
        refine r_virtual H 180 (z := (⟨"com/example/valuta/valuta/api/TextField", "hostId", "()Z"⟩ : MethodName)) (a := b11) at_177 (tw62 hw) (tw63 hw) (nf_sel (tw65 hw)) (tw65 hw) (tw64 hw) (tw28 hw) (tw66 hw) (by decide) q14 (lenOf pd_14 rfl) (rm_hostId_17 hw Ts b11 hh18 h0.size (Nat.le_trans Zf Z0) K12.1 q15) (argsL := []) (rest := []) rfl (W := 0) (Nat.le_of_eq rfl) rfl (by decide) (by decide) (by decide) (by decide) (Nat.le_refl _) rfl ?_
        rintro _ _ ⟨rfl, rfl⟩
        refine r_ifeqF H 183 at_180 rfl (by decide) ?_
        refine r_iconst H 184 (1 : Int32) at_183 (by decide) rfl ?_
        refine r_goto H 188 at_184 (by decide) (by decide) ?_
        have k22 : Keep h0 hh18 [] := Keep.trans (Keep.refl h0 []) K12 all0
        exact r_nreturn (1 : Int32) H (by simp) at_188 (by decide) (by decide) (by decide) Z0 (by intro t ht; simp_all) rfl
      · skip
        have rr23 : 2 ≤ p4.toInt ∧ p4.toInt ≤ 2 := by have := rr8; have : (2 : Int32).toInt = 2 := (by decide); have hc_ := c9; simp only [Int32.lt_iff_toInt_lt, ← Int32.toInt_inj] at hc_; omega
        refine r_new H 74 at_71 (tw67 hw) (tw10 hw) (tw2 hw) (by decide) (by decide) rfl ?_
        intro h24 b24 g24 l24 K24 E24 D24
        refine r_dup H 75 at_74 rfl rfl ?_
        refine r_iconst H 76 (3 : Int32) at_75 (by decide) rfl ?_
        refine r_newP H 78 "[C" 3 at_76 (tw68 hw) rfl (by decide) (by decide) (by decide) (by decide) (by decide) rfl ?_
        intro h25 b25 kc25 g25 l25 K25 E25 A25
        change Ar Z h25 b25 kc25 .char [(.int (0 : Int32)), (.int (0 : Int32)), (.int (0 : Int32))] at A25
        refine r_dup H 79 at_78 rfl rfl ?_
        refine r_iconst H 80 (0 : Int32) at_79 (by decide) rfl ?_
        refine r_iload H 82 at_80 rfl rfl ?_
        refine r_castore H 83 p1 at_82 A25 (by decide) (Nat.le_of_ble_eq_true rfl) (Nat.le_trans K24.1 (Nat.le_of_eq g25.symm)) (nar_char_id (by have := rp1; omega)) rfl ?_
        intro h26 K26 A26
        change Ar Z h26 b25 kc25 .char [(.int p1), (.int (0 : Int32)), (.int (0 : Int32))] at A26
        refine r_dup H 84 at_83 rfl rfl ?_
        refine r_iconst H 85 (1 : Int32) at_84 (by decide) rfl ?_
        refine r_iload H 87 at_85 rfl rfl ?_
        refine r_castore H 88 p2 at_87 A26 (by decide) (Nat.le_of_ble_eq_true rfl) (Nat.le_trans K24.1 (Nat.le_of_eq g25.symm)) (nar_char_id (by have := rp2; omega)) rfl ?_
        intro h27 K27 A27
        have q28 := (E25.keep K26)
        change Ar Z h27 b25 kc25 .char [(.int p1), (.int p2), (.int (0 : Int32))] at A27
        refine r_dup H 89 at_88 rfl rfl ?_
        refine r_iconst H 90 (2 : Int32) at_89 (by decide) rfl ?_
        refine r_iload H 92 at_90 rfl rfl ?_
        refine r_castore H 93 p3 at_92 A27 (by decide) (Nat.le_of_ble_eq_true rfl) (Nat.le_trans K24.1 (Nat.le_of_eq g25.symm)) (nar_char_id (by have := rp3; omega)) rfl ?_
        intro h29 K29 A29
        have q30 := (q28.keep K27)
        change Ar Z h29 b25 kc25 .char [(.int p1), (.int p2), (.int p3)] at A29
        have q31 := (q30.keep K29)
        have q32 := ((((E24.keep K25).keep K26).keep K27).keep K29)
        have q33 := (((((show Fld Z h24 b24 "java/lang/String" "coder" "B" (.int (0 : Int32)) from D24 (Or.inr (tw25 hw)) (ty := .byte) (by decide)).keep K25 nin0).keep K26 (ninS (Nat.ne_of_lt (Nat.lt_of_lt_of_le E24.lt (Nat.le_trans (Nat.le_refl _) (Nat.le_of_eq g25.symm)))) nin0)).keep K27 (ninS (Nat.ne_of_lt (Nat.lt_of_lt_of_le E24.lt (Nat.le_trans (Nat.le_refl _) (Nat.le_of_eq g25.symm)))) nin0)).keep K29 (ninS (Nat.ne_of_lt (Nat.lt_of_lt_of_le E24.lt (Nat.le_trans (Nat.le_refl _) (Nat.le_of_eq g25.symm)))) nin0))
        have q34 := (((((show Fld Z h24 b24 "java/lang/String" "value" "[B" .null from D24 (Or.inr (tw23 hw)) (ty := (.array .byte)) (by decide)).keep K25 nin0).keep K26 (ninS (Nat.ne_of_lt (Nat.lt_of_lt_of_le E24.lt (Nat.le_trans (Nat.le_refl _) (Nat.le_of_eq g25.symm)))) nin0)).keep K27 (ninS (Nat.ne_of_lt (Nat.lt_of_lt_of_le E24.lt (Nat.le_trans (Nat.le_refl _) (Nat.le_of_eq g25.symm)))) nin0)).keep K29 (ninS (Nat.ne_of_lt (Nat.lt_of_lt_of_le E24.lt (Nat.le_trans (Nat.le_refl _) (Nat.le_of_eq g25.symm)))) nin0))
        refine r_special H 96 (a := b24) at_93 (tw69 hw) (tw70 hw) (tw2 hw) (tw71 hw) (by decide) rfl (lenOf pd_4 rfl) (rm_init_1 hw Ts b24 b25 p1 p2 p3 kc25 cs h29 h0.size (Nat.le_trans Zf Z0) (Nat.le_trans (Nat.le_trans (Nat.le_trans (Nat.le_trans K24.1 K25.1) K26.1) K27.1) K29.1) A29 (Nat.le_trans (Nat.le_refl _) (Nat.le_of_eq g24.symm)) q31 q32 q33 q34 rp1 rp2 rp3 S_cs hcs) (argsL := [(.ref b25)]) (rest := [(.ref b24)]) rfl (W := 1) (Nat.le_of_eq rfl) rfl (by decide) (by decide) (by decide) (by decide) (Nat.le_refl _) rfl ?_
        rintro _ hh44 ⟨b35, kc36, rfl, K37, g38, q39, q40, q41, q42, q43⟩
        refine r_astore H 98 #[.val (.int x0), .val (.int x1), .val (.int x2), .val (.int x3), .val (.int p1), .val (.int p2), .val (.int p3), .val (.int p4), .val (.ref b24), .unset, .unset, .unset] at_96 rfl rfl rfl ?_
        refine r_goto H 104 at_98 (by decide) (by decide) ?_
        refine r_aload H 106 at_104 rfl rfl rfl ?_
        refine r_static H 109 at_106 (tw26 hw) (tw27 hw) (tw28 hw) (tw29 hw) (by decide) (lenOf pd_11 rfl) (rm_hostId_18 hw Ts b24 hh44 h0.size (Nat.le_trans Zf Z0) (Nat.le_trans (Nat.le_trans (Nat.le_trans (Nat.le_trans (Nat.le_trans K24.1 K25.1) K26.1) K27.1) K29.1) K37.1)) (argsL := [(.ref b24)]) (rest := []) rfl (W := 0) (Nat.le_of_eq rfl) rfl (by decide) (by decide) (by decide) (by decide) (Nat.le_refl _) rfl ?_
        rintro _ hh52 ⟨b45, rfl, K46, g47, q48, q49, q50, q51⟩
        refine r_astore H 111 #[.val (.int x0), .val (.int x1), .val (.int x2), .val (.int x3), .val (.int p1), .val (.int p2), .val (.int p3), .val (.int p4), .val (.ref b24), .val (.ref b45), .unset, .unset] at_109 rfl rfl rfl ?_
        refine r_aload H 113 at_111 rfl rfl rfl ?_
        refine r_virtual H 116 (z := (⟨"com/example/valuta/valuta/api/TextField", "name", "()Ljava/lang/String;"⟩ : MethodName)) (a := b45) at_113 (tw47 hw) (tw48 hw) (nf_sel (tw50 hw)) (tw50 hw) (tw49 hw) (tw28 hw) (tw51 hw) (by decide) q48 (lenOf pd_12 rfl) (rm_name_20 hw Ts b45 b24 hh52 h0.size (Nat.le_trans Zf Z0) (Nat.le_trans (Nat.le_trans (Nat.le_trans (Nat.le_trans (Nat.le_trans (Nat.le_trans K24.1 K25.1) K26.1) K27.1) K29.1) K37.1) K46.1) q51) (argsL := []) (rest := []) rfl (W := 0) (Nat.le_of_eq rfl) rfl (by decide) (by decide) (by decide) (by decide) (Nat.le_refl _) rfl ?_
        rintro _ _ ⟨rfl, rfl⟩
        refine r_astore H 118 #[.val (.int x0), .val (.int x1), .val (.int x2), .val (.int x3), .val (.int p1), .val (.int p2), .val (.int p3), .val (.int p4), .val (.ref b24), .val (.ref b45), .val (.ref b24), .unset] at_116 rfl rfl rfl ?_
        refine r_aload H 120 at_118 rfl rfl rfl ?_
        refine r_ifnonnullT H 138 at_120 (by decide) (by decide) ?_
        refine r_aload H 140 at_138 rfl rfl rfl ?_
        refine r_ifnullF H 143 at_140 rfl ?_
        refine r_aload H 145 at_143 rfl rfl rfl ?_
        refine r_aload H 147 at_145 rfl rfl rfl ?_
        have q54 := (q39.keep K46)
        refine r_virtual H 150 (z := (⟨"java/lang/String", "equals", "(Ljava/lang/Object;)Z"⟩ : MethodName)) (a := b24) at_147 (tw52 hw) (tw53 hw) (nf_sel (tw55 hw)) (tw55 hw) (tw54 hw) (tw2 hw) (tw56 hw) (by decide) q54 (lenOf pd_15 rfl) (rm_equals_21 hw Ts b24 hh52 h0.size (Nat.le_trans Zf Z0) (Nat.le_trans (Nat.le_trans (Nat.le_trans (Nat.le_trans (Nat.le_trans (Nat.le_trans K24.1 K25.1) K26.1) K27.1) K29.1) K37.1) K46.1)) (argsL := [(.ref b24)]) (rest := []) rfl (W := 0) (Nat.le_of_eq rfl) rfl (by decide) (by decide) (by decide) (by decide) (Nat.le_refl _) rfl ?_
        rintro _ _ ⟨rfl, rfl⟩
        refine r_ifeqF H 153 at_150 rfl (by decide) ?_
        refine r_iconst H 154 (1 : Int32) at_153 (by decide) rfl ?_
        refine r_goto H 158 at_154 (by decide) (by decide) ?_
        refine r_istore H 160 #[.val (.int x0), .val (.int x1), .val (.int x2), .val (.int x3), .val (.int p1), .val (.int p2), .val (.int p3), .val (.int p4), .val (.ref b24), .val (.ref b45), .val (.ref b24), .val (.int (1 : Int32))] at_158 rfl rfl ?_
        refine r_iload H 162 at_160 rfl rfl ?_
        refine r_ifeqF H 165 at_162 rfl (by decide) ?_
        refine r_aload H 167 at_165 rfl rfl rfl ?_
        refine r_virtual H 170 (z := (⟨"com/example/valuta/valuta/api/TextField", "maxLength", "()I"⟩ : MethodName)) (a := b45) at_167 (tw57 hw) (tw58 hw) (nf_sel (tw60 hw)) (tw60 hw) (tw59 hw) (tw28 hw) (tw61 hw) (by decide) q48 (lenOf pd_13 rfl) (rm_maxLength_22 hw Ts b45 hh52 h0.size (Nat.le_trans Zf Z0) (Nat.le_trans (Nat.le_trans (Nat.le_trans (Nat.le_trans (Nat.le_trans (Nat.le_trans K24.1 K25.1) K26.1) K27.1) K29.1) K37.1) K46.1) q50) (argsL := []) (rest := []) rfl (W := 0) (Nat.le_of_eq rfl) rfl (by decide) (by decide) (by decide) (by decide) (Nat.le_refl _) rfl ?_
        rintro _ _ ⟨rfl, rfl⟩
        refine r_bipush H 172 (64 : Int32) at_170 (by decide) rfl ?_
        refine r_icmpneF H 175 at_172 rfl (by decide) ?_
        refine r_aload H 177 at_175 rfl rfl rfl ?_
        refine r_virtual H 180 (z := (⟨"com/example/valuta/valuta/api/TextField", "hostId", "()Z"⟩ : MethodName)) (a := b45) at_177 (tw62 hw) (tw63 hw) (nf_sel (tw65 hw)) (tw65 hw) (tw64 hw) (tw28 hw) (tw66 hw) (by decide) q48 (lenOf pd_14 rfl) (rm_hostId_23 hw Ts b45 hh52 h0.size (Nat.le_trans Zf Z0) (Nat.le_trans (Nat.le_trans (Nat.le_trans (Nat.le_trans (Nat.le_trans (Nat.le_trans K24.1 K25.1) K26.1) K27.1) K29.1) K37.1) K46.1) q49) (argsL := []) (rest := []) rfl (W := 0) (Nat.le_of_eq rfl) rfl (by decide) (by decide) (by decide) (by decide) (Nat.le_refl _) rfl ?_
        rintro _ _ ⟨rfl, rfl⟩
        refine r_ifeqF H 183 at_180 rfl (by decide) ?_
        refine r_iconst H 184 (1 : Int32) at_183 (by decide) rfl ?_
        refine r_goto H 188 at_184 (by decide) (by decide) ?_
        have k58 : Keep h0 h24 [] := Keep.trans (Keep.refl h0 []) K24 all0
        have k59 : Keep h0 h25 [] := Keep.trans k58 K25 all0
        have k60 : Keep h0 h26 [] := Keep.trans k59 K26 (allS (Or.inr (Nat.le_trans K24.1 (Nat.le_of_eq g25.symm))) all0)
        have k61 : Keep h0 h27 [] := Keep.trans k60 K27 (allS (Or.inr (Nat.le_trans K24.1 (Nat.le_of_eq g25.symm))) all0)
        have k62 : Keep h0 h29 [] := Keep.trans k61 K29 (allS (Or.inr (Nat.le_trans K24.1 (Nat.le_of_eq g25.symm))) all0)
        have k63 : Keep h0 hh44 [] := Keep.trans k62 K37 (allS (Or.inr (Nat.le_trans (Nat.le_refl _) (Nat.le_of_eq g24.symm))) all0)
        have k64 : Keep h0 hh52 [] := Keep.trans k63 K46 all0
        exact r_nreturn (1 : Int32) H (by simp) at_188 (by decide) (by decide) (by decide) Z0 (by intro t ht; simp_all) rfl
    · skip
      have rr65 : 1 ≤ p4.toInt ∧ p4.toInt ≤ 1 := by have := rr6; have : (1 : Int32).toInt = 1 := (by decide); have hc_ := c7; simp only [Int32.lt_iff_toInt_lt, ← Int32.toInt_inj] at hc_; omega
      refine r_iload H 57 at_55 rfl rfl ?_
      refine r_static H 60 at_57 (tw0 hw) (tw1 hw) (tw2 hw) (tw3 hw) (by decide) (lenOf pd_8 rfl) (rm_valueOf_6 hw Ts p1 cs h0 h0.size (Nat.le_trans Zf Z0) (Nat.le_refl _) rp1 S_cs hcs) (argsL := [(.int p1)]) (rest := []) rfl (W := 0) (Nat.le_of_eq rfl) rfl (by decide) (by decide) (by decide) (by decide) (Nat.le_refl _) rfl ?_
      rintro _ hh78 ⟨b66, b67, kc68, rfl, K69, g70, g71, g72, q73, q74, q75, q76, q77⟩
      refine r_astore H 62 #[.val (.int x0), .val (.int x1), .val (.int x2), .val (.int x3), .val (.int p1), .val (.int p2), .val (.int p3), .val (.int p4), .val (.ref b66), .unset, .unset, .unset] at_60 rfl rfl rfl ?_
      refine r_goto H 104 at_62 (by decide) (by decide) ?_
      refine r_aload H 106 at_104 rfl rfl rfl ?_
      refine r_static H 109 at_106 (tw26 hw) (tw27 hw) (tw28 hw) (tw29 hw) (by decide) (lenOf pd_11 rfl) (rm_hostId_24 hw Ts b66 hh78 h0.size (Nat.le_trans Zf Z0) K69.1) (argsL := [(.ref b66)]) (rest := []) rfl (W := 0) (Nat.le_of_eq rfl) rfl (by decide) (by decide) (by decide) (by decide) (Nat.le_refl _) rfl ?_
      rintro _ hh86 ⟨b79, rfl, K80, g81, q82, q83, q84, q85⟩
      refine r_astore H 111 #[.val (.int x0), .val (.int x1), .val (.int x2), .val (.int x3), .val (.int p1), .val (.int p2), .val (.int p3), .val (.int p4), .val (.ref b66), .val (.ref b79), .unset, .unset] at_109 rfl rfl rfl ?_
      refine r_aload H 113 at_111 rfl rfl rfl ?_
      refine r_virtual H 116 (z := (⟨"com/example/valuta/valuta/api/TextField", "name", "()Ljava/lang/String;"⟩ : MethodName)) (a := b79) at_113 (tw47 hw) (tw48 hw) (nf_sel (tw50 hw)) (tw50 hw) (tw49 hw) (tw28 hw) (tw51 hw) (by decide) q82 (lenOf pd_12 rfl) (rm_name_26 hw Ts b79 b66 hh86 h0.size (Nat.le_trans Zf Z0) (Nat.le_trans K69.1 K80.1) q85) (argsL := []) (rest := []) rfl (W := 0) (Nat.le_of_eq rfl) rfl (by decide) (by decide) (by decide) (by decide) (Nat.le_refl _) rfl ?_
      rintro _ _ ⟨rfl, rfl⟩
      refine r_astore H 118 #[.val (.int x0), .val (.int x1), .val (.int x2), .val (.int x3), .val (.int p1), .val (.int p2), .val (.int p3), .val (.int p4), .val (.ref b66), .val (.ref b79), .val (.ref b66), .unset] at_116 rfl rfl rfl ?_
      refine r_aload H 120 at_118 rfl rfl rfl ?_
      refine r_ifnonnullT H 138 at_120 (by decide) (by decide) ?_
      refine r_aload H 140 at_138 rfl rfl rfl ?_
      refine r_ifnullF H 143 at_140 rfl ?_
      refine r_aload H 145 at_143 rfl rfl rfl ?_
      refine r_aload H 147 at_145 rfl rfl rfl ?_
      have q88 := (q73.keep K80)
      refine r_virtual H 150 (z := (⟨"java/lang/String", "equals", "(Ljava/lang/Object;)Z"⟩ : MethodName)) (a := b66) at_147 (tw52 hw) (tw53 hw) (nf_sel (tw55 hw)) (tw55 hw) (tw54 hw) (tw2 hw) (tw56 hw) (by decide) q88 (lenOf pd_15 rfl) (rm_equals_27 hw Ts b66 hh86 h0.size (Nat.le_trans Zf Z0) (Nat.le_trans K69.1 K80.1)) (argsL := [(.ref b66)]) (rest := []) rfl (W := 0) (Nat.le_of_eq rfl) rfl (by decide) (by decide) (by decide) (by decide) (Nat.le_refl _) rfl ?_
      rintro _ _ ⟨rfl, rfl⟩
      refine r_ifeqF H 153 at_150 rfl (by decide) ?_
      refine r_iconst H 154 (1 : Int32) at_153 (by decide) rfl ?_
      refine r_goto H 158 at_154 (by decide) (by decide) ?_
      refine r_istore H 160 #[.val (.int x0), .val (.int x1), .val (.int x2), .val (.int x3), .val (.int p1), .val (.int p2), .val (.int p3), .val (.int p4), .val (.ref b66), .val (.ref b79), .val (.ref b66), .val (.int (1 : Int32))] at_158 rfl rfl ?_
      refine r_iload H 162 at_160 rfl rfl ?_
      refine r_ifeqF H 165 at_162 rfl (by decide) ?_
      refine r_aload H 167 at_165 rfl rfl rfl ?_
      refine r_virtual H 170 (z := (⟨"com/example/valuta/valuta/api/TextField", "maxLength", "()I"⟩ : MethodName)) (a := b79) at_167 (tw57 hw) (tw58 hw) (nf_sel (tw60 hw)) (tw60 hw) (tw59 hw) (tw28 hw) (tw61 hw) (by decide) q82 (lenOf pd_13 rfl) (rm_maxLength_28 hw Ts b79 hh86 h0.size (Nat.le_trans Zf Z0) (Nat.le_trans K69.1 K80.1) q84) (argsL := []) (rest := []) rfl (W := 0) (Nat.le_of_eq rfl) rfl (by decide) (by decide) (by decide) (by decide) (Nat.le_refl _) rfl ?_
      rintro _ _ ⟨rfl, rfl⟩
      refine r_bipush H 172 (64 : Int32) at_170 (by decide) rfl ?_
      refine r_icmpneF H 175 at_172 rfl (by decide) ?_
      refine r_aload H 177 at_175 rfl rfl rfl ?_
      refine r_virtual H 180 (z := (⟨"com/example/valuta/valuta/api/TextField", "hostId", "()Z"⟩ : MethodName)) (a := b79) at_177 (tw62 hw) (tw63 hw) (nf_sel (tw65 hw)) (tw65 hw) (tw64 hw) (tw28 hw) (tw66 hw) (by decide) q82 (lenOf pd_14 rfl) (rm_hostId_29 hw Ts b79 hh86 h0.size (Nat.le_trans Zf Z0) (Nat.le_trans K69.1 K80.1) q83) (argsL := []) (rest := []) rfl (W := 0) (Nat.le_of_eq rfl) rfl (by decide) (by decide) (by decide) (by decide) (Nat.le_refl _) rfl ?_
      rintro _ _ ⟨rfl, rfl⟩
      refine r_ifeqF H 183 at_180 rfl (by decide) ?_
      refine r_iconst H 184 (1 : Int32) at_183 (by decide) rfl ?_
      refine r_goto H 188 at_184 (by decide) (by decide) ?_
      have k92 : Keep h0 hh78 [] := Keep.trans (Keep.refl h0 []) K69 all0
      have k93 : Keep h0 hh86 [] := Keep.trans k92 K80 all0
      exact r_nreturn (1 : Int32) H (by simp) at_188 (by decide) (by decide) (by decide) Z0 (by intro t ht; simp_all) rfl
  · skip
    have rr94 : 0 ≤ p4.toInt ∧ p4.toInt ≤ 0 := by have := rp4; have : (0 : Int32).toInt = 0 := (by decide); have hc_ := c5; simp only [Int32.lt_iff_toInt_lt, ← Int32.toInt_inj] at hc_; omega
    refine r_new H 37 at_34 (tw67 hw) (tw10 hw) (tw2 hw) (by decide) (by decide) rfl ?_
    intro h95 b95 g95 l95 K95 E95 D95
    refine r_dup H 38 at_37 rfl rfl ?_
    refine r_iconst H 39 (0 : Int32) at_38 (by decide) rfl ?_
    refine r_newP H 41 "[C" 0 at_39 (tw68 hw) rfl (by decide) (by decide) (by decide) (by decide) (by decide) rfl ?_
    intro h96 b96 kc96 g96 l96 K96 E96 A96
    change Ar Z h96 b96 kc96 .char [] at A96
    have q97 := (E95.keep K96)
    have q98 := ((show Fld Z h95 b95 "java/lang/String" "value" "[B" .null from D95 (Or.inr (tw23 hw)) (ty := (.array .byte)) (by decide)).keep K96 nin0)
    have q99 := ((show Fld Z h95 b95 "java/lang/String" "coder" "B" (.int (0 : Int32)) from D95 (Or.inr (tw25 hw)) (ty := .byte) (by decide)).keep K96 nin0)
    refine r_special H 44 (a := b95) at_41 (tw69 hw) (tw70 hw) (tw2 hw) (tw71 hw) (by decide) rfl (lenOf pd_4 rfl) (rm_init_10 hw Ts b95 b96 kc96 h96 h0.size (Nat.le_trans Zf Z0) (Nat.le_trans K95.1 K96.1) A96 (Nat.le_trans (Nat.le_refl _) (Nat.le_of_eq g95.symm)) q97 q98 q99 wS hcw hh0 hT_empty) (argsL := [(.ref b96)]) (rest := [(.ref b95)]) rfl (W := 1) (Nat.le_of_eq rfl) rfl (by decide) (by decide) (by decide) (by decide) (Nat.le_refl _) rfl ?_
    rintro _ hh107 ⟨b100, kc101, rfl, K102, q103, q104, q105, q106⟩
    refine r_astore H 46 #[.val (.int x0), .val (.int x1), .val (.int x2), .val (.int x3), .val (.int p1), .val (.int p2), .val (.int p3), .val (.int p4), .val (.ref b95), .unset, .unset, .unset] at_44 rfl rfl rfl ?_
    refine r_goto H 104 at_46 (by decide) (by decide) ?_
    refine r_aload H 106 at_104 rfl rfl rfl ?_
    refine r_static H 109 at_106 (tw26 hw) (tw27 hw) (tw28 hw) (tw29 hw) (by decide) (lenOf pd_11 rfl) (rm_hostId_30 hw ("" :: Ts) b95 hh107 h0.size (Nat.le_trans Zf Z0) (Nat.le_trans (Nat.le_trans K95.1 K96.1) K102.1)) (argsL := [(.ref b95)]) (rest := []) rfl (W := 0) (Nat.le_of_eq rfl) rfl (by decide) (by decide) (by decide) (by decide) (Nat.le_refl _) rfl ?_
    rintro _ hh115 ⟨b108, rfl, K109, g110, q111, q112, q113, q114⟩
    refine r_astore H 111 #[.val (.int x0), .val (.int x1), .val (.int x2), .val (.int x3), .val (.int p1), .val (.int p2), .val (.int p3), .val (.int p4), .val (.ref b95), .val (.ref b108), .unset, .unset] at_109 rfl rfl rfl ?_
    refine r_aload H 113 at_111 rfl rfl rfl ?_
    refine r_virtual H 116 (z := (⟨"com/example/valuta/valuta/api/TextField", "name", "()Ljava/lang/String;"⟩ : MethodName)) (a := b108) at_113 (tw47 hw) (tw48 hw) (nf_sel (tw50 hw)) (tw50 hw) (tw49 hw) (tw28 hw) (tw51 hw) (by decide) q111 (lenOf pd_12 rfl) (rm_name_32 hw ("" :: Ts) b108 b95 hh115 h0.size (Nat.le_trans Zf Z0) (Nat.le_trans (Nat.le_trans (Nat.le_trans K95.1 K96.1) K102.1) K109.1) q114) (argsL := []) (rest := []) rfl (W := 0) (Nat.le_of_eq rfl) rfl (by decide) (by decide) (by decide) (by decide) (Nat.le_refl _) rfl ?_
    rintro _ _ ⟨rfl, rfl⟩
    refine r_astore H 118 #[.val (.int x0), .val (.int x1), .val (.int x2), .val (.int x3), .val (.int p1), .val (.int p2), .val (.int p3), .val (.int p4), .val (.ref b95), .val (.ref b108), .val (.ref b95), .unset] at_116 rfl rfl rfl ?_
    refine r_aload H 120 at_118 rfl rfl rfl ?_
    refine r_ifnonnullT H 138 at_120 (by decide) (by decide) ?_
    refine r_aload H 140 at_138 rfl rfl rfl ?_
    refine r_ifnullF H 143 at_140 rfl ?_
    refine r_aload H 145 at_143 rfl rfl rfl ?_
    refine r_aload H 147 at_145 rfl rfl rfl ?_
    have q117 := (q103.keep K109)
    refine r_virtual H 150 (z := (⟨"java/lang/String", "equals", "(Ljava/lang/Object;)Z"⟩ : MethodName)) (a := b95) at_147 (tw52 hw) (tw53 hw) (nf_sel (tw55 hw)) (tw55 hw) (tw54 hw) (tw2 hw) (tw56 hw) (by decide) q117 (lenOf pd_15 rfl) (rm_equals_33 hw ("" :: Ts) b95 hh115 h0.size (Nat.le_trans Zf Z0) (Nat.le_trans (Nat.le_trans (Nat.le_trans K95.1 K96.1) K102.1) K109.1)) (argsL := [(.ref b95)]) (rest := []) rfl (W := 0) (Nat.le_of_eq rfl) rfl (by decide) (by decide) (by decide) (by decide) (Nat.le_refl _) rfl ?_
    rintro _ _ ⟨rfl, rfl⟩
    refine r_ifeqF H 153 at_150 rfl (by decide) ?_
    refine r_iconst H 154 (1 : Int32) at_153 (by decide) rfl ?_
    refine r_goto H 158 at_154 (by decide) (by decide) ?_
    refine r_istore H 160 #[.val (.int x0), .val (.int x1), .val (.int x2), .val (.int x3), .val (.int p1), .val (.int p2), .val (.int p3), .val (.int p4), .val (.ref b95), .val (.ref b108), .val (.ref b95), .val (.int (1 : Int32))] at_158 rfl rfl ?_
    refine r_iload H 162 at_160 rfl rfl ?_
    refine r_ifeqF H 165 at_162 rfl (by decide) ?_
    refine r_aload H 167 at_165 rfl rfl rfl ?_
    refine r_virtual H 170 (z := (⟨"com/example/valuta/valuta/api/TextField", "maxLength", "()I"⟩ : MethodName)) (a := b108) at_167 (tw57 hw) (tw58 hw) (nf_sel (tw60 hw)) (tw60 hw) (tw59 hw) (tw28 hw) (tw61 hw) (by decide) q111 (lenOf pd_13 rfl) (rm_maxLength_34 hw ("" :: Ts) b108 hh115 h0.size (Nat.le_trans Zf Z0) (Nat.le_trans (Nat.le_trans (Nat.le_trans K95.1 K96.1) K102.1) K109.1) q113) (argsL := []) (rest := []) rfl (W := 0) (Nat.le_of_eq rfl) rfl (by decide) (by decide) (by decide) (by decide) (Nat.le_refl _) rfl ?_
    rintro _ _ ⟨rfl, rfl⟩
    refine r_bipush H 172 (64 : Int32) at_170 (by decide) rfl ?_
    refine r_icmpneF H 175 at_172 rfl (by decide) ?_
    refine r_aload H 177 at_175 rfl rfl rfl ?_
    refine r_virtual H 180 (z := (⟨"com/example/valuta/valuta/api/TextField", "hostId", "()Z"⟩ : MethodName)) (a := b108) at_177 (tw62 hw) (tw63 hw) (nf_sel (tw65 hw)) (tw65 hw) (tw64 hw) (tw28 hw) (tw66 hw) (by decide) q111 (lenOf pd_14 rfl) (rm_hostId_35 hw ("" :: Ts) b108 hh115 h0.size (Nat.le_trans Zf Z0) (Nat.le_trans (Nat.le_trans (Nat.le_trans K95.1 K96.1) K102.1) K109.1) q112) (argsL := []) (rest := []) rfl (W := 0) (Nat.le_of_eq rfl) rfl (by decide) (by decide) (by decide) (by decide) (Nat.le_refl _) rfl ?_
    rintro _ _ ⟨rfl, rfl⟩
    refine r_ifeqF H 183 at_180 rfl (by decide) ?_
    refine r_iconst H 184 (1 : Int32) at_183 (by decide) rfl ?_
    refine r_goto H 188 at_184 (by decide) (by decide) ?_
    have k121 : Keep h0 h95 [] := Keep.trans (Keep.refl h0 []) K95 all0
    have k122 : Keep h0 h96 [] := Keep.trans k121 K96 all0
    have k123 : Keep h0 hh107 [] := Keep.trans k122 K102 (allS (Or.inr (Nat.le_trans (Nat.le_refl _) (Nat.le_of_eq g95.symm))) all0)
    have k124 : Keep h0 hh115 [] := Keep.trans k123 K109 all0
    exact r_nreturn (1 : Int32) H (by simp) at_188 (by decide) (by decide) (by decide) Z0 (fun _ t => t) rfl
set_option maxRecDepth 65536 in
set_option maxHeartbeats 40000000 in
theorem comes_1 {Post : Tables → Env → Array Value → State → Outcome → State → Prop} (hpost : ∀ tb e args s v u, (limb_1_1.after args s (.returned v) u = true ∧ limb_1_2.after args s (.returned v) u = true ∧ True) → ReturnedEndW s (.returned v) u (Jvm.fieldLocs frame_1_writes args s ++ Jvm.arrayLocs frame_1_arrays args s ++ Jvm.staticLocs frame_1_statics s) 24 1152 → Post tb e args s (.returned v) u) :
    ArmFor flags0 classFile x code maxLocals ret World_1 tables_1 room_1 Calls_1 rest_1 Pre_1 Post := by
  intro l hfl _ _ p e ha hc hk s m args below hf hA hF happ hP
  obtain ⟨hcalls, hrest, hpre⟩ := hP
  obtain ⟨-, -, -, hnamed, -, -, -, hat⟩ := (Spec.applies_iff hf).mp happ
  obtain ⟨hg, hn⟩ := and_e (Cond.before_iff.mp (show (Jvm.Cond.and given_1 narrow_1).before args s = true from hpre))
  obtain ⟨hcnt, hg0⟩ := and_e hg
  obtain ⟨ga0, hg1⟩ := and_e hg0
  obtain ⟨ga1, hg2⟩ := and_e hg1
  obtain ⟨ga2, hg3⟩ := and_e hg2
  obtain ⟨w0, w1, w2, w3, rfl⟩ : ∃ w0 w1 w2 w3 : Value, args = #[w0, w1, w2, w3] := by
    have hs : args.size = 4 := by simpa [Cond.value, given_1] using hcnt
    obtain ⟨L⟩ := args
    match L, hs with
    | [w0, w1, w2, w3], _ => exact ⟨w0, w1, w2, w3, rfl⟩
  have hw := fun d (hd : d ∈ tables_1) => atoms_spec (ws := Jvm.Cond.code x code maxLocals ret :: tables_1) hat d (List.mem_cons_of_mem _ hd)
  obtain ⟨hsets, hown0⟩ := atoms_of _ (rest_1_c_eq ▸ (show rest_1_c.before _ s = true from hrest))
  obtain ⟨i0, ei0⟩ := is_v ga0
  obtain rfl : w0 = (.int i0) := Option.some.inj ei0
  obtain ⟨i1, ei1⟩ := is_v ga1
  obtain rfl : w1 = (.int i1) := Option.some.inj ei1
  obtain ⟨i2, ei2⟩ := is_v ga2
  obtain rfl : w2 = (.int i2) := Option.some.inj ei2
  obtain ⟨i3, ei3⟩ := is_v hg3
  obtain rfl : w3 = (.int i3) := Option.some.inj ei3
  have ncs := not_v (Cond.before_iff.mp (hsets _ (List.mem_of_getElem? (i := 2) rfl)))
  obtain ⟨cs, ecs⟩ := is_v (Cond.before_iff.mp (hsets _ (List.mem_of_getElem? (i := 1) rfl)))
  have S_cs : Sta s s.heap "java/lang/String" "COMPACT_STRINGS" "Z" (.int cs) := Sta.start ecs (Or.inl (hsets _ (List.mem_of_getElem? (i := 0) rfl)))
  have hcs : ¬ (cs = (0 : Int32)) := gotF (Cond.eq_ints ecs (Term.int_eval (0))) ncs
  have wS : ∀ a ∈ Bundle.stringAtoms, a.before #[.int i0, .int i1, .int i2, .int i3] s = true := by
    intro a ha'
    simp only [Bundle.stringAtoms, List.mem_cons, List.not_mem_nil, or_false] at ha'
    rcases ha' with rfl | rfl | rfl | rfl | rfl | rfl | rfl
    · exact (tw2 hw)
    · exact (tw10 hw)
    · exact (tw14 hw)
    · exact (tw23 hw)
    · exact (tw25 hw)
    · exact (tw86 hw)
    · exact (tw87 hw)
  have hcw : Jvm.Lit.compactW.before #[.int i0, .int i1, .int i2, .int i3] s = true := (hsets _ (List.mem_of_getElem? (i := 2) rfl))
  have hh0 : Jvm.Lit.constHeld s "java/lang/String" 7 := hcalls.1 _ (List.mem_of_getElem? (i := 0) rfl)
  obtain ⟨n, o, h1, h2, h3, _, L, rfl, ⟨rfl, N, -, -⟩, hq⟩ := rm_law hw [] rfl i0 i1 i2 i3 cs s.heap s.heap.size (Nat.le_refl _) (Nat.le_refl _) S_cs wS hcw hh0 hcs l p e ha hc hk s m _ below hf ((Spec.applies_iff_loose hf).mp happ).1 ⟨rfl, State.Warmed39.refl s, rfl, IB.start, ⟨Nat.le_refl _, fun _ _ q => q⟩⟩ trivial
  refine ⟨n, _, h1, h2, h3, hpost _ _ _ _ _ _ ⟨Cond.after_iff.mpr rfl, Cond.after_iff.mpr (eq_i res_at (Term.int_eval (1)) rfl), trivial⟩ ⟨hq.1, hq.2.1, hq.2.2.1, (hq.2.2.2.sift fun y hy => Or.inr (N y hy)).mono (by decide) (by decide)⟩⟩
theorem main_1_1 : Claimed_1_1 := comes_1 fun _ _ _ _ _ _ h hF => ⟨h.1, hF⟩
theorem main_1_2 : Claimed_1_2 := comes_1 fun _ _ _ _ _ _ h hF => ⟨h.2.1, hF⟩
end Jvm.Pilot.@@N@@
namespace Jvm.Pilot.@@N@@
open Jvm Jvm.ClassFile Sem Op Lib Jvm.Free Jvm.Stand Jvm.Pilot.@@N@@.Jvm.D
/-! MADE BY PROGRAM (witnessworld.py) out of the Statement's table words and the real class files: 21 classes; the members and pool entries that the words name. The judged class is class 1, her method 1. -/
namespace start1
open Jvm.ClassFile
def u (s : String) : CpInfo := .utf8 (stringToUtf16 s)
/-- a pool by its gaps: so many unusable entries, then the entry; so many at the end -/
def gap : Nat → List CpInfo → List CpInfo
  | 0, r => r
  | n + 1, r => .unusable :: gap n r
def poolList (es : List (Nat × CpInfo)) (last : Nat) : List CpInfo := es.foldr (fun e r => gap e.1 (e.2 :: r)) (gap last [])
def pool (es : List (Nat × CpInfo)) (last : Nat) : Array CpInfo := ⟨poolList es last⟩
def fileOf (pool : Array CpInfo) (this : Nat) (attrs : Array Attribute := #[]) (ms : Array MethodInfo := #[]) (fl : Nat := 33) (sup : Nat := 0) (ifs : Array Nat := #[]) (fds : Array FieldInfo := #[]) : ClassFile where
  minorVersion := 0
  majorVersion := 65
  constantPool := pool
  accessFlags := fl
  thisClass := this
  superClass := sup
  interfaces := ifs
  fields := fds
  methods := ms
  attributes := attrs
def plain (name : String) (sup : Option ClassId) : Class where
  name := name
  kind := .ordinary
  loader := none
  accessFlags := 33
  super := sup
  interfaces := #[]
  cf := none
  fields := #[]
  methods := #[]
  instanceTypes := #[]
  staticTypes := #[]
  resolved := #[]
  callSites := []
  init := .initialized
  statics := none
  mirror := none

def pool0 : Array CpInfo := pool [(5, u "<init>"), (0, u "()V"), (1, .class_ 10), (1, u "java/lang/Object")] 113

def k0c0 : Code := { maxStack := 0, maxLocals := 1, code := object_method_1_code, exceptionTable := #[], attributes := #[] }
def k0m0 : Method := { name := "<init>", desc := "()V", sig := { parameters := [], returnType := none }, accessFlags := 1, code := some k0c0 }
/-- java/lang/Object -/
def k0 : Class := { plain "java/lang/Object" none with
  accessFlags := 33
  interfaces := #[]
  cf := some (fileOf pool0 8 #[] #[{ accessFlags := 1, nameIndex := 5, descriptorIndex := 6, attributes := #[] }] 33 0 #[] #[])
  fields := #[]
  methods := #[k0m0]
  instanceTypes := #[]
  staticTypes := #[]
  resolved := Array.replicate 124 none
  statics := none }

def pool1 : Array CpInfo := pool [(2, .class_ 4), (1, u "java/lang/Object"), (0, u "<init>"), (0, u "()V"), (0, .class_ 8), (0, u "java/lang/String"), (0, .methodref 7 10), (0, .nameAndType 5 11), (0, u "([C)V"), (0, .methodref 7 13), (0, .nameAndType 14 15), (0, u "valueOf"), (0, u "(C)Ljava/lang/String;"), (0, .methodref 17 18), (0, .class_ 19), (0, .nameAndType 20 21), (0, u "com/example/valuta/valuta/api/TextField"), (0, u "hostId"), (0, u "(Ljava/lang/String;)Lcom/example/valuta/valuta/api/TextField;"), (0, .methodref 17 23), (0, .nameAndType 24 25), (0, u "name"), (0, u "()Ljava/lang/String;"), (0, .methodref 7 27), (0, .nameAndType 28 29), (0, u "equals"), (0, u "(Ljava/lang/Object;)Z"), (0, .methodref 17 31), (0, .nameAndType 32 33), (0, u "maxLength"), (0, u "()I"), (0, .methodref 17 35), (0, .nameAndType 20 36), (0, u "()Z"), (0, .class_ 38), (0, u "com/example/valuta/valuta/api/TextFieldHostIdPinLaw"), (2, u "law"), (0, u "(IIII)Z")] 3

def k1m0 : Method := { name := "<init>", desc := "()V", sig := { parameters := [], returnType := none }, accessFlags := 1, code := none }
def k1c1 : Code := { maxStack := 6, maxLocals := 12, code := code, exceptionTable := #[], attributes := #[] }
def k1m1 : Method := { name := "law", desc := "(IIII)Z", sig := { parameters := [.int, .int, .int, .int], returnType := some .boolean }, accessFlags := 9, code := some k1c1 }
/-- com/example/valuta/valuta/api/TextFieldHostIdPinLaw -/
def k1 : Class := { plain "com/example/valuta/valuta/api/TextFieldHostIdPinLaw" (some 0) with
  accessFlags := 49
  interfaces := #[]
  cf := some (fileOf pool1 37 #[] #[{ accessFlags := 1, nameIndex := 5, descriptorIndex := 6, attributes := #[] }, { accessFlags := 9, nameIndex := 41, descriptorIndex := 42, attributes := #[] }] 49 2 #[] #[])
  fields := #[]
  methods := #[k1m0, k1m1]
  instanceTypes := #[]
  staticTypes := #[]
  resolved := Array.replicate 46 none
  statics := none }

def pool2 : Array CpInfo := pool [(1, .class_ 2), (0, u "java/io/Serializable"), (0, .class_ 4), (0, u "java/lang/Object")] 2

/-- java/io/Serializable -/
def k2 : Class := { plain "java/io/Serializable" (some 0) with
  accessFlags := 1537
  interfaces := #[]
  cf := some (fileOf pool2 1 #[] #[] 1537 3 #[] #[])
  fields := #[]
  methods := #[]
  instanceTypes := #[]
  staticTypes := #[]
  resolved := Array.replicate 7 none
  statics := none }

def pool3 : Array CpInfo := pool [(1, .class_ 2), (0, u "java/lang/Comparable"), (0, .class_ 4), (0, u "java/lang/Object")] 7

/-- java/lang/Comparable -/
def k3 : Class := { plain "java/lang/Comparable" (some 0) with
  accessFlags := 1537
  interfaces := #[]
  cf := some (fileOf pool3 1 #[] #[] 1537 3 #[] #[])
  fields := #[]
  methods := #[]
  instanceTypes := #[]
  staticTypes := #[]
  resolved := Array.replicate 12 none
  statics := none }

def pool4 : Array CpInfo := pool [(2, .class_ 4), (1, u "java/lang/CharSequence"), (42, .class_ 48), (0, u "java/lang/CharSequence$1CodePointIterator"), (10, .class_ 60), (0, u "java/lang/CharSequence$1CharIterator"), (5, .class_ 67), (0, u "java/lang/Object")] 63

/-- java/lang/CharSequence -/
def k4 : Class := { plain "java/lang/CharSequence" (some 0) with
  accessFlags := 1537
  interfaces := #[]
  cf := some (fileOf pool4 2 #[.nestMembers #[47, 59]] #[] 1537 66 #[] #[])
  fields := #[]
  methods := #[]
  instanceTypes := #[]
  staticTypes := #[]
  resolved := Array.replicate 131 none
  statics := none }

def pool5 : Array CpInfo := pool [(1, .class_ 2), (0, u "java/lang/constant/Constable"), (0, .class_ 4), (0, u "java/lang/Object")] 6

/-- java/lang/constant/Constable -/
def k5 : Class := { plain "java/lang/constant/Constable" (some 0) with
  accessFlags := 1537
  interfaces := #[]
  cf := some (fileOf pool5 1 #[] #[] 1537 3 #[] #[])
  fields := #[]
  methods := #[]
  instanceTypes := #[]
  staticTypes := #[]
  resolved := Array.replicate 11 none
  statics := none }

def pool6 : Array CpInfo := pool [(1, .class_ 2), (0, u "java/lang/constant/ConstantDesc"), (0, .class_ 4), (0, u "java/lang/Object")] 32

/-- java/lang/constant/ConstantDesc -/
def k6 : Class := { plain "java/lang/constant/ConstantDesc" (some 0) with
  accessFlags := 1537
  interfaces := #[]
  cf := some (fileOf pool6 1 #[] #[] 1537 3 #[] #[])
  fields := #[]
  methods := #[]
  instanceTypes := #[]
  staticTypes := #[]
  resolved := Array.replicate 37 none
  statics := none }

def pool7 : Array CpInfo := pool [(1, .methodref 2 3), (0, .class_ 4), (0, .nameAndType 5 6), (0, u "java/lang/Object"), (0, u "<init>"), (0, u "()V"), (0, .string 8), (0, u ""), (0, .fieldref 10 11), (0, .class_ 12), (0, .nameAndType 13 14), (0, u "java/lang/String"), (0, u "value"), (0, u "[B"), (0, .fieldref 10 16), (0, .nameAndType 17 18), (0, u "coder"), (0, u "B"), (2, u "hash"), (0, u "I"), (2, u "hashIsZero"), (0, u "Z"), (0, .methodref 10 28), (0, .nameAndType 5 29), (0, u "([CIILjava/lang/Void;)V"), (8, .fieldref 10 39), (0, .nameAndType 40 26), (0, u "COMPACT_STRINGS"), (1, .class_ 44), (1, u "java/lang/StringUTF16"), (0, u "compress"), (1, .methodref 42 48), (0, .nameAndType 49 50), (0, u "coderFromArrayLen"), (0, u "([BI)B"), (2, u "toBytes"), (53, .class_ 109), (1, u "java/lang/StringLatin1"), (67, .methodref 42 178), (0, .nameAndType 45 179), (0, u "([CII)[B"), (29, .methodref 10 210), (0, .nameAndType 5 211), (0, u "([BB)V"), (157, u "(C)Z"), (173, u "equals"), (29, u "(Ljava/lang/Object;)Z"), (1, .class_ 576), (0, u "java/lang/CharSequence"), (22, u "CASE_INSENSITIVE_ORDER"), (0, u "Ljava/util/Comparator;"), (181, u "valueOf"), (0, u "(C)Ljava/lang/String;"), (226, u "([C)V"), (4, .methodref 107 1016), (0, .nameAndType 1017 369), (0, u "canEncode"), (0, .methodref 107 1019), (0, .nameAndType 53 1020), (0, u "(C)[B"), (80, u "serialPersistentFields"), (0, u "[Ljava/io/ObjectStreamField;"), (0, .class_ 1104), (0, u "java/lang/String$CaseInsensitiveComparator"), (1, .class_ 1107), (0, u "java/io/Serializable"), (0, .class_ 1109), (0, u "java/lang/Comparable"), (0, .class_ 1111), (0, u "java/lang/constant/Constable"), (0, .class_ 1113), (0, u "java/lang/constant/ConstantDesc"), (2, u "serialVersionUID"), (0, u "J"), (3, u "REPL"), (0, u "C"), (2, u "LATIN1"), (1, u "UTF16")] 323

def k7m0 : Method := { name := "<init>", desc := "()V", sig := { parameters := [], returnType := none }, accessFlags := 1, code := none }
def k7c1 : Code := { maxStack := 5, maxLocals := 2, code := jdk_42_method_3_code, exceptionTable := #[], attributes := #[] }
def k7m1 : Method := { name := "<init>", desc := "([C)V", sig := { parameters := [(.array .char)], returnType := none }, accessFlags := 1, code := some k7c1 }
def k7c2 : Code := { maxStack := 2, maxLocals := 3, code := jdk_42_method_66_code, exceptionTable := #[], attributes := #[] }
def k7m2 : Method := { name := "equals", desc := "(Ljava/lang/Object;)Z", sig := { parameters := [(.object "java/lang/Object")], returnType := some .boolean }, accessFlags := 1, code := some k7c2 }
def k7c3 : Code := { maxStack := 4, maxLocals := 1, code := jdk_42_method_139_code, exceptionTable := #[], attributes := #[] }
def k7m3 : Method := { name := "valueOf", desc := "(C)Ljava/lang/String;", sig := { parameters := [.char], returnType := some (.object "java/lang/String") }, accessFlags := 9, code := some k7c3 }
def k7c4 : Code := { maxStack := 4, maxLocals := 6, code := jdk_42_method_149_code, exceptionTable := #[], attributes := #[] }
def k7m4 : Method := { name := "<init>", desc := "([CIILjava/lang/Void;)V", sig := { parameters := [(.array .char), .int, .int, (.object "java/lang/Void")], returnType := none }, accessFlags := 2, code := some k7c4 }
def k7c5 : Code := { maxStack := 2, maxLocals := 3, code := jdk_42_method_151_code, exceptionTable := #[], attributes := #[] }
def k7m5 : Method := { name := "<init>", desc := "([BB)V", sig := { parameters := [(.array .byte), .byte], returnType := none }, accessFlags := 0, code := some k7c5 }
/-- java/lang/String -/
def k7 : Class := { plain "java/lang/String" (some 0) with
  accessFlags := 49
  interfaces := #[2, 3, 4, 5, 6]
  cf := some (fileOf pool7 10 #[.nestMembers #[1103]] #[{ accessFlags := 1, nameIndex := 5, descriptorIndex := 6, attributes := #[] }, { accessFlags := 1, nameIndex := 5, descriptorIndex := 1010, attributes := #[] }, { accessFlags := 1, nameIndex := 543, descriptorIndex := 573, attributes := #[] }, { accessFlags := 9, nameIndex := 782, descriptorIndex := 783, attributes := #[] }, { accessFlags := 2, nameIndex := 5, descriptorIndex := 29, attributes := #[] }, { accessFlags := 0, nameIndex := 5, descriptorIndex := 211, attributes := #[] }] 49 2 #[1106, 1108, 575, 1110, 1112] #[{ accessFlags := 18, nameIndex := 13, descriptorIndex := 14, attributes := #[] }, { accessFlags := 18, nameIndex := 17, descriptorIndex := 18, attributes := #[] }, { accessFlags := 2, nameIndex := 21, descriptorIndex := 22, attributes := #[] }, { accessFlags := 2, nameIndex := 25, descriptorIndex := 26, attributes := #[] }, { accessFlags := 26, nameIndex := 1116, descriptorIndex := 1117, attributes := #[] }, { accessFlags := 24, nameIndex := 40, descriptorIndex := 26, attributes := #[] }, { accessFlags := 26, nameIndex := 1101, descriptorIndex := 1102, attributes := #[] }, { accessFlags := 26, nameIndex := 1121, descriptorIndex := 1122, attributes := #[] }, { accessFlags := 25, nameIndex := 599, descriptorIndex := 600, attributes := #[] }, { accessFlags := 24, nameIndex := 1125, descriptorIndex := 18, attributes := #[] }, { accessFlags := 24, nameIndex := 1127, descriptorIndex := 18, attributes := #[] }])
  fields := #[{ name := "value", type := (.array .byte), accessFlags := 18, slot := 0, constantValue := 0 }, { name := "coder", type := .byte, accessFlags := 18, slot := 1, constantValue := 0 }, { name := "hash", type := .int, accessFlags := 2, slot := 2, constantValue := 0 }, { name := "hashIsZero", type := .boolean, accessFlags := 2, slot := 3, constantValue := 0 }, { name := "serialVersionUID", type := .long, accessFlags := 26, slot := 0, constantValue := 0 }, { name := "COMPACT_STRINGS", type := .boolean, accessFlags := 24, slot := 1, constantValue := 0 }, { name := "serialPersistentFields", type := (.array (.object "java/io/ObjectStreamField")), accessFlags := 26, slot := 2, constantValue := 0 }, { name := "REPL", type := .char, accessFlags := 26, slot := 3, constantValue := 0 }, { name := "CASE_INSENSITIVE_ORDER", type := (.object "java/util/Comparator"), accessFlags := 25, slot := 4, constantValue := 0 }, { name := "LATIN1", type := .byte, accessFlags := 24, slot := 5, constantValue := 0 }, { name := "UTF16", type := .byte, accessFlags := 24, slot := 6, constantValue := 0 }]
  methods := #[k7m0, k7m1, k7m2, k7m3, k7m4, k7m5]
  instanceTypes := #[(.array .byte), .byte, .int, .boolean]
  staticTypes := #[.long, .boolean, (.array (.object "java/io/ObjectStreamField")), .char, (.object "java/util/Comparator"), .byte, .byte]
  resolved := Array.replicate 1451 none
  statics := some 0 }

def pool8 : Array CpInfo := pool [(4, .class_ 6), (1, u "java/lang/Object"), (0, u "<init>"), (0, u "()V"), (5, .class_ 16), (1, u "java/lang/StringLatin1"), (73, u "canEncode"), (14, u "(C)Z"), (15, u "$assertionsDisabled"), (0, u "Z"), (98, .class_ 223), (1, u "java/lang/StringLatin1$LinesSpliterator"), (156, u "toBytes"), (1, u "(C)[B"), (7, .class_ 391), (0, u "java/lang/StringLatin1$CharsSpliterator")] 3

def k8m0 : Method := { name := "<init>", desc := "()V", sig := { parameters := [], returnType := none }, accessFlags := 0, code := none }
def k8c1 : Code := { maxStack := 2, maxLocals := 1, code := jdk_43_method_3_code, exceptionTable := #[], attributes := #[] }
def k8m1 : Method := { name := "canEncode", desc := "(C)Z", sig := { parameters := [.char], returnType := some .boolean }, accessFlags := 9, code := some k8c1 }
def k8c2 : Code := { maxStack := 4, maxLocals := 1, code := jdk_43_method_46_code, exceptionTable := #[], attributes := #[] }
def k8m2 : Method := { name := "toBytes", desc := "(C)[B", sig := { parameters := [.char], returnType := some (.array .byte) }, accessFlags := 9, code := some k8c2 }
/-- java/lang/StringLatin1 -/
def k8 : Class := { plain "java/lang/StringLatin1" (some 0) with
  accessFlags := 48
  interfaces := #[]
  cf := some (fileOf pool8 14 #[.nestMembers #[390, 221]] #[{ accessFlags := 0, nameIndex := 7, descriptorIndex := 8, attributes := #[] }, { accessFlags := 9, nameIndex := 90, descriptorIndex := 105, attributes := #[] }, { accessFlags := 9, nameIndex := 380, descriptorIndex := 382, attributes := #[] }] 48 4 #[] #[{ accessFlags := 4120, nameIndex := 121, descriptorIndex := 122, attributes := #[] }])
  fields := #[{ name := "$assertionsDisabled", type := .boolean, accessFlags := 4120, slot := 0, constantValue := 0 }]
  methods := #[k8m0, k8m1, k8m2]
  instanceTypes := #[]
  staticTypes := #[.boolean]
  resolved := Array.replicate 395 none
  statics := none }

def pool9 : Array CpInfo := pool [(1, .methodref 2 3), (0, .class_ 4), (0, .nameAndType 5 6), (0, u "java/lang/Object"), (0, u "<init>"), (0, u "()V"), (0, .class_ 8), (0, u "java/lang/Record")] 13

def k9c0 : Code := { maxStack := 1, maxLocals := 1, code := jdk_30_method_1_code, exceptionTable := #[], attributes := #[] }
def k9m0 : Method := { name := "<init>", desc := "()V", sig := { parameters := [], returnType := none }, accessFlags := 4, code := some k9c0 }
/-- java/lang/Record -/
def k9 : Class := { plain "java/lang/Record" (some 0) with
  accessFlags := 1057
  interfaces := #[]
  cf := some (fileOf pool9 7 #[] #[{ accessFlags := 4, nameIndex := 5, descriptorIndex := 6, attributes := #[] }] 1057 2 #[] #[])
  fields := #[]
  methods := #[k9m0]
  instanceTypes := #[]
  staticTypes := #[]
  resolved := Array.replicate 22 none
  statics := none }

def pool10 : Array CpInfo := pool [(1, .methodref 2 3), (0, .class_ 4), (0, .nameAndType 5 6), (0, u "java/lang/Record"), (0, u "<init>"), (0, u "()V"), (0, .fieldref 8 9), (0, .class_ 10), (0, .nameAndType 11 12), (0, u "com/example/valuta/valuta/api/TextField"), (0, u "name"), (0, u "Ljava/lang/String;"), (0, .fieldref 8 14), (0, .nameAndType 15 16), (0, u "maxLength"), (0, u "I"), (0, .fieldref 8 18), (0, .nameAndType 19 20), (0, u "hostId"), (0, u "Z"), (0, .methodref 8 22), (0, .nameAndType 5 23), (0, u "(Ljava/lang/String;IZ)V"), (19, u "NOTE"), (0, u "Lcom/example/valuta/valuta/api/TextField;"), (4, u "REASON"), (4, u "REFERENCE_TYPE"), (4, u "REFERENCE_ID"), (4, u "EXTERNAL_ORDER_NO"), (4, u "(Ljava/lang/String;)Lcom/example/valuta/valuta/api/TextField;"), (2, u "MEMBER"), (3, u "()Ljava/lang/String;"), (0, u "()I"), (1, u "()Z")] 23

def k10c0 : Code := { maxStack := 2, maxLocals := 4, code := prog_19_method_2_code, exceptionTable := #[], attributes := #[] }
def k10m0 : Method := { name := "<init>", desc := "(Ljava/lang/String;IZ)V", sig := { parameters := [(.object "java/lang/String"), .int, .boolean], returnType := none }, accessFlags := 1, code := some k10c0 }
def k10c1 : Code := { maxStack := 5, maxLocals := 1, code := prog_19_method_3_code, exceptionTable := #[], attributes := #[] }
def k10m1 : Method := { name := "hostId", desc := "(Ljava/lang/String;)Lcom/example/valuta/valuta/api/TextField;", sig := { parameters := [(.object "java/lang/String")], returnType := some (.object "com/example/valuta/valuta/api/TextField") }, accessFlags := 9, code := some k10c1 }
def k10c2 : Code := { maxStack := 1, maxLocals := 1, code := prog_19_method_7_code, exceptionTable := #[], attributes := #[] }
def k10m2 : Method := { name := "name", desc := "()Ljava/lang/String;", sig := { parameters := [], returnType := some (.object "java/lang/String") }, accessFlags := 1, code := some k10c2 }
def k10c3 : Code := { maxStack := 1, maxLocals := 1, code := prog_19_method_8_code, exceptionTable := #[], attributes := #[] }
def k10m3 : Method := { name := "maxLength", desc := "()I", sig := { parameters := [], returnType := some .int }, accessFlags := 1, code := some k10c3 }
def k10c4 : Code := { maxStack := 1, maxLocals := 1, code := prog_19_method_9_code, exceptionTable := #[], attributes := #[] }
def k10m4 : Method := { name := "hostId", desc := "()Z", sig := { parameters := [], returnType := some .boolean }, accessFlags := 1, code := some k10c4 }
/-- com/example/valuta/valuta/api/TextField -/
def k10 : Class := { plain "com/example/valuta/valuta/api/TextField" (some 9) with
  accessFlags := 49
  interfaces := #[]
  cf := some (fileOf pool10 8 #[] #[{ accessFlags := 1, nameIndex := 5, descriptorIndex := 23, attributes := #[] }, { accessFlags := 9, nameIndex := 19, descriptorIndex := 69, attributes := #[] }, { accessFlags := 1, nameIndex := 11, descriptorIndex := 76, attributes := #[] }, { accessFlags := 1, nameIndex := 15, descriptorIndex := 77, attributes := #[] }, { accessFlags := 1, nameIndex := 19, descriptorIndex := 79, attributes := #[] }] 49 2 #[] #[{ accessFlags := 18, nameIndex := 11, descriptorIndex := 12, attributes := #[] }, { accessFlags := 18, nameIndex := 15, descriptorIndex := 16, attributes := #[] }, { accessFlags := 18, nameIndex := 19, descriptorIndex := 20, attributes := #[] }, { accessFlags := 25, nameIndex := 43, descriptorIndex := 44, attributes := #[] }, { accessFlags := 25, nameIndex := 49, descriptorIndex := 44, attributes := #[] }, { accessFlags := 25, nameIndex := 54, descriptorIndex := 44, attributes := #[] }, { accessFlags := 25, nameIndex := 59, descriptorIndex := 44, attributes := #[] }, { accessFlags := 25, nameIndex := 64, descriptorIndex := 44, attributes := #[] }, { accessFlags := 25, nameIndex := 72, descriptorIndex := 44, attributes := #[] }])
  fields := #[{ name := "name", type := (.object "java/lang/String"), accessFlags := 18, slot := 0, constantValue := 0 }, { name := "maxLength", type := .int, accessFlags := 18, slot := 1, constantValue := 0 }, { name := "hostId", type := .boolean, accessFlags := 18, slot := 2, constantValue := 0 }, { name := "NOTE", type := (.object "com/example/valuta/valuta/api/TextField"), accessFlags := 25, slot := 0, constantValue := 0 }, { name := "REASON", type := (.object "com/example/valuta/valuta/api/TextField"), accessFlags := 25, slot := 1, constantValue := 0 }, { name := "REFERENCE_TYPE", type := (.object "com/example/valuta/valuta/api/TextField"), accessFlags := 25, slot := 2, constantValue := 0 }, { name := "REFERENCE_ID", type := (.object "com/example/valuta/valuta/api/TextField"), accessFlags := 25, slot := 3, constantValue := 0 }, { name := "EXTERNAL_ORDER_NO", type := (.object "com/example/valuta/valuta/api/TextField"), accessFlags := 25, slot := 4, constantValue := 0 }, { name := "MEMBER", type := (.object "com/example/valuta/valuta/api/TextField"), accessFlags := 25, slot := 5, constantValue := 0 }]
  methods := #[k10m0, k10m1, k10m2, k10m3, k10m4]
  instanceTypes := #[(.object "java/lang/String"), .int, .boolean]
  staticTypes := #[(.object "com/example/valuta/valuta/api/TextField"), (.object "com/example/valuta/valuta/api/TextField"), (.object "com/example/valuta/valuta/api/TextField"), (.object "com/example/valuta/valuta/api/TextField"), (.object "com/example/valuta/valuta/api/TextField"), (.object "com/example/valuta/valuta/api/TextField")]
  resolved := Array.replicate 103 none
  statics := none }

def pool11 : Array CpInfo := pool [(6, .class_ 8), (1, u "java/lang/Object"), (0, u "<init>"), (0, u "()V"), (1, .class_ 14), (1, u "java/lang/StringUTF16"), (31, u "$assertionsDisabled"), (0, u "Z"), (13, u "HI_BYTE_SHIFT"), (0, u "I"), (2, u "LO_BYTE_SHIFT"), (49, .methodref 12 116), (0, .nameAndType 117 118), (0, u "compress"), (0, u "([CI[BII)I"), (3, u "([CII)[B"), (138, u "coderFromArrayLen"), (0, u "([BI)B"), (106, .class_ 371), (1, u "java/lang/StringUTF16$LinesSpliterator"), (58, u "MAX_LENGTH"), (196, .class_ 628), (0, u "java/lang/StringUTF16$CodePointsSpliterator"), (0, .class_ 630), (0, u "java/lang/StringUTF16$CharsSpliterator")] 4

def k11m0 : Method := { name := "<init>", desc := "()V", sig := { parameters := [], returnType := none }, accessFlags := 0, code := none }
def k11c1 : Code := { maxStack := 2, maxLocals := 2, code := jdk_52_method_15_code, exceptionTable := #[], attributes := #[] }
def k11m1 : Method := { name := "coderFromArrayLen", desc := "([BI)B", sig := { parameters := [(.array .byte), .int], returnType := some .byte }, accessFlags := 8, code := some k11c1 }
def k11c2 : Code := { maxStack := 5, maxLocals := 6, code := jdk_52_method_16_code, exceptionTable := #[], attributes := #[] }
def k11m2 : Method := { name := "compress", desc := "([CII)[B", sig := { parameters := [(.array .char), .int, .int], returnType := some (.array .byte) }, accessFlags := 9, code := some k11c2 }
def k11c3 : Code := { maxStack := 3, maxLocals := 7, code := jdk_52_method_21_code, exceptionTable := #[], attributes := #[] }
def k11m3 : Method := { name := "compress", desc := "([CI[BII)I", sig := { parameters := [(.array .char), .int, (.array .byte), .int, .int], returnType := some .int }, accessFlags := 9, code := some k11c3 }
/-- java/lang/StringUTF16 -/
def k11 : Class := { plain "java/lang/StringUTF16" (some 0) with
  accessFlags := 48
  interfaces := #[]
  cf := some (fileOf pool11 12 #[.nestMembers #[627, 629, 369]] #[{ accessFlags := 0, nameIndex := 9, descriptorIndex := 10, attributes := #[] }, { accessFlags := 8, nameIndex := 261, descriptorIndex := 262, attributes := #[] }, { accessFlags := 9, nameIndex := 117, descriptorIndex := 122, attributes := #[] }, { accessFlags := 9, nameIndex := 117, descriptorIndex := 118, attributes := #[] }] 48 6 #[] #[{ accessFlags := 26, nameIndex := 61, descriptorIndex := 62, attributes := #[] }, { accessFlags := 26, nameIndex := 65, descriptorIndex := 62, attributes := #[] }, { accessFlags := 24, nameIndex := 430, descriptorIndex := 62, attributes := #[] }, { accessFlags := 4120, nameIndex := 46, descriptorIndex := 47, attributes := #[] }])
  fields := #[{ name := "HI_BYTE_SHIFT", type := .int, accessFlags := 26, slot := 0, constantValue := 0 }, { name := "LO_BYTE_SHIFT", type := .int, accessFlags := 26, slot := 1, constantValue := 0 }, { name := "MAX_LENGTH", type := .int, accessFlags := 24, slot := 2, constantValue := 0 }, { name := "$assertionsDisabled", type := .boolean, accessFlags := 4120, slot := 3, constantValue := 0 }]
  methods := #[k11m0, k11m1, k11m2, k11m3]
  instanceTypes := #[]
  staticTypes := #[.int, .int, .int, .boolean]
  resolved := Array.replicate 635 none
  statics := none }

def pool12 : Array CpInfo := pool [(2, .class_ 4), (1, u "java/lang/Object"), (0, u "<init>"), (0, u "()V"), (17, .class_ 26), (1, u "jdk/internal/util/Preconditions"), (28, .class_ 56), (0, u "jdk/internal/util/Preconditions$4"), (57, .class_ 115), (0, u "jdk/internal/util/Preconditions$1"), (7, u "SIOOBE_FORMATTER"), (0, u "Ljava/util/function/BiFunction;"), (0, .class_ 126), (0, u "jdk/internal/util/Preconditions$2"), (3, u "AIOOBE_FORMATTER"), (0, .class_ 132), (0, u "jdk/internal/util/Preconditions$3"), (3, u "IOOBE_FORMATTER")] 57

def k12m0 : Method := { name := "<init>", desc := "()V", sig := { parameters := [], returnType := none }, accessFlags := 1, code := none }
/-- jdk/internal/util/Preconditions -/
def k12 : Class := { plain "jdk/internal/util/Preconditions" (some 0) with
  accessFlags := 33
  interfaces := #[]
  cf := some (fileOf pool12 24 #[.nestMembers #[55, 131, 125, 114]] #[{ accessFlags := 1, nameIndex := 5, descriptorIndex := 6, attributes := #[] }] 33 2 #[] #[{ accessFlags := 25, nameIndex := 123, descriptorIndex := 124, attributes := #[] }, { accessFlags := 25, nameIndex := 130, descriptorIndex := 124, attributes := #[] }, { accessFlags := 25, nameIndex := 136, descriptorIndex := 124, attributes := #[] }])
  fields := #[{ name := "SIOOBE_FORMATTER", type := (.object "java/util/function/BiFunction"), accessFlags := 25, slot := 0, constantValue := 0 }, { name := "AIOOBE_FORMATTER", type := (.object "java/util/function/BiFunction"), accessFlags := 25, slot := 1, constantValue := 0 }, { name := "IOOBE_FORMATTER", type := (.object "java/util/function/BiFunction"), accessFlags := 25, slot := 2, constantValue := 0 }]
  methods := #[k12m0]
  instanceTypes := #[]
  staticTypes := #[(.object "java/util/function/BiFunction"), (.object "java/util/function/BiFunction"), (.object "java/util/function/BiFunction")]
  resolved := Array.replicate 194 none
  statics := some 1 }

def pool13 : Array CpInfo := pool [(9, u "<init>"), (6, .class_ 18), (1, u "java/lang/Object"), (0, u "()V"), (1, .class_ 23), (1, u "jdk/internal/util/ArraysSupport"), (0, u "LOG2_ARRAY_LONG_INDEX_SCALE"), (0, u "I"), (2, u "U"), (0, u "Ljdk/internal/misc/Unsafe;"), (8, u "BIG_ENDIAN"), (0, u "Z"), (8, u "LOG2_BYTE_BIT_SIZE"), (4, u "LOG2_ARRAY_INT_INDEX_SCALE"), (54, u "JLA"), (0, u "Ljdk/internal/access/JavaLangAccess;"), (11, u "LOG2_ARRAY_BOOLEAN_INDEX_SCALE"), (9, u "LOG2_ARRAY_BYTE_INDEX_SCALE"), (5, u "LOG2_ARRAY_CHAR_INDEX_SCALE"), (5, u "LOG2_ARRAY_SHORT_INDEX_SCALE"), (18, u "LOG2_ARRAY_FLOAT_INDEX_SCALE"), (24, u "LOG2_ARRAY_DOUBLE_INDEX_SCALE"), (89, u "T_BOOLEAN"), (2, u "T_CHAR"), (1, u "T_FLOAT"), (1, u "T_DOUBLE"), (1, u "T_BYTE"), (1, u "T_SHORT"), (1, u "T_INT"), (1, u "T_LONG"), (1, u "SOFT_MAX_ARRAY_LENGTH")] 83

def k13m0 : Method := { name := "<init>", desc := "()V", sig := { parameters := [], returnType := none }, accessFlags := 2, code := none }
/-- jdk/internal/util/ArraysSupport -/
def k13 : Class := { plain "jdk/internal/util/ArraysSupport" (some 0) with
  accessFlags := 33
  interfaces := #[]
  cf := some (fileOf pool13 21 #[] #[{ accessFlags := 2, nameIndex := 9, descriptorIndex := 19, attributes := #[] }] 33 16 #[] #[{ accessFlags := 24, nameIndex := 28, descriptorIndex := 29, attributes := #[] }, { accessFlags := 26, nameIndex := 38, descriptorIndex := 39, attributes := #[] }, { accessFlags := 25, nameIndex := 121, descriptorIndex := 25, attributes := #[] }, { accessFlags := 25, nameIndex := 131, descriptorIndex := 25, attributes := #[] }, { accessFlags := 25, nameIndex := 137, descriptorIndex := 25, attributes := #[] }, { accessFlags := 25, nameIndex := 143, descriptorIndex := 25, attributes := #[] }, { accessFlags := 25, nameIndex := 53, descriptorIndex := 25, attributes := #[] }, { accessFlags := 25, nameIndex := 24, descriptorIndex := 25, attributes := #[] }, { accessFlags := 25, nameIndex := 162, descriptorIndex := 25, attributes := #[] }, { accessFlags := 25, nameIndex := 187, descriptorIndex := 25, attributes := #[] }, { accessFlags := 26, nameIndex := 48, descriptorIndex := 25, attributes := #[] }, { accessFlags := 25, nameIndex := 277, descriptorIndex := 25, attributes := #[] }, { accessFlags := 25, nameIndex := 280, descriptorIndex := 25, attributes := #[] }, { accessFlags := 25, nameIndex := 282, descriptorIndex := 25, attributes := #[] }, { accessFlags := 25, nameIndex := 284, descriptorIndex := 25, attributes := #[] }, { accessFlags := 25, nameIndex := 286, descriptorIndex := 25, attributes := #[] }, { accessFlags := 25, nameIndex := 288, descriptorIndex := 25, attributes := #[] }, { accessFlags := 25, nameIndex := 290, descriptorIndex := 25, attributes := #[] }, { accessFlags := 25, nameIndex := 292, descriptorIndex := 25, attributes := #[] }, { accessFlags := 26, nameIndex := 108, descriptorIndex := 109, attributes := #[] }, { accessFlags := 25, nameIndex := 294, descriptorIndex := 25, attributes := #[] }])
  fields := #[{ name := "U", type := (.object "jdk/internal/misc/Unsafe"), accessFlags := 24, slot := 0, constantValue := 0 }, { name := "BIG_ENDIAN", type := .boolean, accessFlags := 26, slot := 1, constantValue := 0 }, { name := "LOG2_ARRAY_BOOLEAN_INDEX_SCALE", type := .int, accessFlags := 25, slot := 2, constantValue := 0 }, { name := "LOG2_ARRAY_BYTE_INDEX_SCALE", type := .int, accessFlags := 25, slot := 3, constantValue := 0 }, { name := "LOG2_ARRAY_CHAR_INDEX_SCALE", type := .int, accessFlags := 25, slot := 4, constantValue := 0 }, { name := "LOG2_ARRAY_SHORT_INDEX_SCALE", type := .int, accessFlags := 25, slot := 5, constantValue := 0 }, { name := "LOG2_ARRAY_INT_INDEX_SCALE", type := .int, accessFlags := 25, slot := 6, constantValue := 0 }, { name := "LOG2_ARRAY_LONG_INDEX_SCALE", type := .int, accessFlags := 25, slot := 7, constantValue := 0 }, { name := "LOG2_ARRAY_FLOAT_INDEX_SCALE", type := .int, accessFlags := 25, slot := 8, constantValue := 0 }, { name := "LOG2_ARRAY_DOUBLE_INDEX_SCALE", type := .int, accessFlags := 25, slot := 9, constantValue := 0 }, { name := "LOG2_BYTE_BIT_SIZE", type := .int, accessFlags := 26, slot := 10, constantValue := 0 }, { name := "T_BOOLEAN", type := .int, accessFlags := 25, slot := 11, constantValue := 0 }, { name := "T_CHAR", type := .int, accessFlags := 25, slot := 12, constantValue := 0 }, { name := "T_FLOAT", type := .int, accessFlags := 25, slot := 13, constantValue := 0 }, { name := "T_DOUBLE", type := .int, accessFlags := 25, slot := 14, constantValue := 0 }, { name := "T_BYTE", type := .int, accessFlags := 25, slot := 15, constantValue := 0 }, { name := "T_SHORT", type := .int, accessFlags := 25, slot := 16, constantValue := 0 }, { name := "T_INT", type := .int, accessFlags := 25, slot := 17, constantValue := 0 }, { name := "T_LONG", type := .int, accessFlags := 25, slot := 18, constantValue := 0 }, { name := "JLA", type := (.object "jdk/internal/access/JavaLangAccess"), accessFlags := 26, slot := 19, constantValue := 0 }, { name := "SOFT_MAX_ARRAY_LENGTH", type := .int, accessFlags := 25, slot := 20, constantValue := 0 }]
  methods := #[k13m0]
  instanceTypes := #[]
  staticTypes := #[(.object "jdk/internal/misc/Unsafe"), .boolean, .int, .int, .int, .int, .int, .int, .int, .int, .int, .int, .int, .int, .int, .int, .int, .int, .int, (.object "jdk/internal/access/JavaLangAccess"), .int]
  resolved := Array.replicate 378 none
  statics := none }

def pool14 : Array CpInfo := pool [(1, u "java/lang/Cloneable"), (0, .class_ 1), (0, u "java/lang/Object"), (0, .class_ 3)] 3

/-- java/lang/Cloneable -/
def k14 : Class := { plain "java/lang/Cloneable" (some 0) with
  accessFlags := 1537
  interfaces := #[]
  cf := some (fileOf pool14 2 #[] #[] 1537 4 #[] #[])
  fields := #[]
  methods := #[]
  instanceTypes := #[]
  staticTypes := #[]
  resolved := Array.replicate 8 none
  statics := none }

/-- the primitive byte -/
def k15 : Class := { plain "byte" none with kind := .primitive 'B', accessFlags := 0x411 }
/-- [B -/
def k16 : Class := { plain "[B" (some 0) with kind := .array 15 .byte, interfaces := #[14, 2], accessFlags := 1041 }

/-- the primitive char -/
def k17 : Class := { plain "char" none with kind := .primitive 'C', accessFlags := 0x411 }
/-- [C -/
def k18 : Class := { plain "[C" (some 0) with kind := .array 17 .char, interfaces := #[14, 2], accessFlags := 1041 }

/-- the primitive int -/
def k19 : Class := { plain "int" none with kind := .primitive 'I', accessFlags := 0x411 }
/-- [I -/
def k20 : Class := { plain "[I" (some 0) with kind := .array 19 .int, interfaces := #[14, 2], accessFlags := 1041 }

def heap : Heap := #[{ cls := 7, slots := #[.long 0, .int 1, .null, .int 0, .null, .int 0, .int 0], vm := .statics 7 },
  { cls := 12, slots := #[.null, .null, .null], vm := .statics 12 }]
def classes : Array Class := #[k0, k1, k2, k3, k4, k5, k6, k7, k8, k9, k10, k11, k12, k13, k14, k15, k16, k17, k18, k19, k20]
def interned : List (Array UInt16 × Addr) := []
def slotsUsed : Nat := 10
def theMethod : MethodId := ⟨1, 1⟩
def args0 : Array Value := #[.int 65, .int 66, .int 67, .int 2]
def aboutOver (below : List Frame) : State where
  vm := { classes := classes, interned := interned.toArray }
  heap := heap
  slotsUsed := slotsUsed
  threads := #[{ frames := .invoking theMethod args0 :: below }]
def below0 : List Frame := [.native { method := ⟨0, 0⟩, args := #[] }]
def about1 : State := aboutOver below0
def p0 : Program := .bare "" "" ""
def e0 : Env := launch0.env 0 0 0
theorem w_frames : about1.frames = Frame.invoking theMethod args0 :: below0 := rfl
set_option maxRecDepth 65536 in
theorem w_args : argsFit about1.vm theMethod args0 = true := by decide +kernel
set_option maxRecDepth 65536 in
theorem w_heap : heapFits about1 = true := by decide +kernel
set_option maxRecDepth 65536 in
theorem w_runnable : about1.curStatus? = some .runnable := by decide +kernel
set_option maxRecDepth 65536 in
theorem w_alone : about1.alone = true := by decide +kernel
set_option maxRecDepth 65536 in
theorem w_named : about1.methodNamed? x = some theMethod := by decide +kernel
set_option maxRecDepth 65536 in
theorem w_hears : about1.hears theMethod below0 = true := by decide +kernel
set_option maxRecDepth 65536 in
theorem w_ripe : about1.ripe theMethod args0 below0 = true := by decide +kernel
theorem w_running : about1.status = .running := rfl
set_option maxRecDepth 65536 in
theorem w_room : about1.hasRoom e0.platform room_1 = true :=
  launch0.hasRoom_least _ room_1 (by decide +kernel) (by decide +kernel) (by decide +kernel) (by decide +kernel) (by decide +kernel) (by decide +kernel)
theorem allAtoms_all (ts : List Jvm.Cond) (a : Array Jvm.Value) (st : Jvm.State) : (allAtoms ts).before a st = ts.all (fun c => c.before a st) := by
  induction ts with
  | nil => rfl
  | cons c t ih =>
    show (Jvm.Cond.and c (allAtoms t)).before a st = _
    rw [Jvm.Cond.before_and, ih, List.all_cons]
def words1 : List Jvm.Cond := Jvm.Cond.code x code maxLocals ret :: tables_1
/-- a 'code' word, met by the world's own term for the bytes: nothing is compared byte by byte -/
theorem code_word {y : MethodName} {bytes : ByteArray} {mx : Nat} {rt : Option FieldType} {a : Array Value} {s : State} {m : MethodId} {meth : Method} {c : Code} (h1 : s.methodNamed? y = some m) (h2 : s.vm.method? m = some meth) (h3 : meth.code = some c) (h4 : c.code = bytes)
    (h5 : (c.maxLocals == mx && c.exceptionTable.isEmpty && decide (c.maxStack ≤ mostOperands) && decide (meth.sig.returnType = rt) && !meth.locks && decide (parseMethodDescriptor y.desc = some meth.sig)) = true) : (Jvm.Cond.code y bytes mx rt).before a s = true := by
  simp only [Bool.and_eq_true, beq_iff_eq, Bool.not_eq_true', decide_eq_true_eq] at h5
  obtain ⟨⟨⟨⟨⟨g1, g2⟩, g3⟩, g4⟩, g5⟩, g6⟩ := h5
  simp [Cond.before, Cond.holds, Cond.value, h1, h2, h3, h4, g1, g2, g3, g4, g5, g6]
def isCode : Jvm.Cond → Bool
  | .code _ _ _ _ => true
  | _ => false
theorem all_split {L : List Jvm.Cond} {P : Jvm.Cond → Bool} (h1 : L.all (fun c => isCode c || P c) = true) (h2 : ∀ c ∈ L.filter isCode, P c = true) : L.all P = true := by
  refine List.all_eq_true.mpr fun c hc => ?_
  have h := List.all_eq_true.mp h1 c hc
  rcases Bool.eq_false_or_eq_true (isCode c) with hi | hi
  · exact h2 c (List.mem_filter.mpr ⟨hc, hi⟩)
  · simpa [hi] using h
set_option maxRecDepth 65536 in
theorem w_c0 : (Jvm.Cond.code x code maxLocals ret).before args0 about1 = true := code_word (m := ⟨1, 1⟩) (meth := k1m1) (c := k1c1) (by decide +kernel) rfl rfl rfl (by decide +kernel)
set_option maxRecDepth 65536 in
theorem w_c1 : (Jvm.Cond.code ({ cls := "java/lang/String", name := "valueOf", desc := "(C)Ljava/lang/String;" } : Jvm.MethodName) jdk_42_method_139_code (1 : Nat) (Option.some (Jvm.ClassFile.FieldType.object "java/lang/String"))).before args0 about1 = true := code_word (m := ⟨7, 3⟩) (meth := k7m3) (c := k7c3) (by decide +kernel) rfl rfl rfl (by decide +kernel)
set_option maxRecDepth 65536 in
theorem w_c2 : (Jvm.Cond.code ({ cls := "java/lang/StringLatin1", name := "canEncode", desc := "(C)Z" } : Jvm.MethodName) jdk_43_method_3_code (1 : Nat) (Option.some Jvm.ClassFile.FieldType.boolean)).before args0 about1 = true := code_word (m := ⟨8, 1⟩) (meth := k8m1) (c := k8c1) (by decide +kernel) rfl rfl rfl (by decide +kernel)
set_option maxRecDepth 65536 in
theorem w_c3 : (Jvm.Cond.code ({ cls := "java/lang/StringLatin1", name := "toBytes", desc := "(C)[B" } : Jvm.MethodName) jdk_43_method_46_code (1 : Nat) (Option.some (Jvm.ClassFile.FieldType.array Jvm.ClassFile.FieldType.byte))).before args0 about1 = true := code_word (m := ⟨8, 2⟩) (meth := k8m2) (c := k8c2) (by decide +kernel) rfl rfl rfl (by decide +kernel)
set_option maxRecDepth 65536 in
theorem w_c4 : (Jvm.Cond.code ({ cls := "java/lang/String", name := "<init>", desc := "([BB)V" } : Jvm.MethodName) jdk_42_method_151_code (3 : Nat) (Option.none : Option Jvm.ClassFile.FieldType)).before args0 about1 = true := code_word (m := ⟨7, 5⟩) (meth := k7m5) (c := k7c5) (by decide +kernel) rfl rfl rfl (by decide +kernel)
set_option maxRecDepth 65536 in
theorem w_c5 : (Jvm.Cond.code ({ cls := "java/lang/Object", name := "<init>", desc := "()V" } : Jvm.MethodName) object_method_1_code (1 : Nat) (Option.none : Option Jvm.ClassFile.FieldType)).before args0 about1 = true := code_word (m := ⟨0, 0⟩) (meth := k0m0) (c := k0c0) (by decide +kernel) rfl rfl rfl (by decide +kernel)
set_option maxRecDepth 65536 in
theorem w_c6 : (Jvm.Cond.code ({ cls := "com/example/valuta/valuta/api/TextField", name := "hostId", desc := "(Ljava/lang/String;)Lcom/example/valuta/valuta/api/TextField;" } : Jvm.MethodName) prog_19_method_3_code (1 : Nat) (Option.some (Jvm.ClassFile.FieldType.object "com/example/valuta/valuta/api/TextField"))).before args0 about1 = true := code_word (m := ⟨10, 1⟩) (meth := k10m1) (c := k10c1) (by decide +kernel) rfl rfl rfl (by decide +kernel)
set_option maxRecDepth 65536 in
theorem w_c7 : (Jvm.Cond.code ({ cls := "com/example/valuta/valuta/api/TextField", name := "<init>", desc := "(Ljava/lang/String;IZ)V" } : Jvm.MethodName) prog_19_method_2_code (4 : Nat) (Option.none : Option Jvm.ClassFile.FieldType)).before args0 about1 = true := code_word (m := ⟨10, 0⟩) (meth := k10m0) (c := k10c0) (by decide +kernel) rfl rfl rfl (by decide +kernel)
set_option maxRecDepth 65536 in
theorem w_c8 : (Jvm.Cond.code ({ cls := "java/lang/Record", name := "<init>", desc := "()V" } : Jvm.MethodName) jdk_30_method_1_code (1 : Nat) (Option.none : Option Jvm.ClassFile.FieldType)).before args0 about1 = true := code_word (m := ⟨9, 0⟩) (meth := k9m0) (c := k9c0) (by decide +kernel) rfl rfl rfl (by decide +kernel)
set_option maxRecDepth 65536 in
theorem w_c9 : (Jvm.Cond.code ({ cls := "com/example/valuta/valuta/api/TextField", name := "name", desc := "()Ljava/lang/String;" } : Jvm.MethodName) prog_19_method_7_code (1 : Nat) (Option.some (Jvm.ClassFile.FieldType.object "java/lang/String"))).before args0 about1 = true := code_word (m := ⟨10, 2⟩) (meth := k10m2) (c := k10c2) (by decide +kernel) rfl rfl rfl (by decide +kernel)
set_option maxRecDepth 65536 in
theorem w_c10 : (Jvm.Cond.code ({ cls := "java/lang/String", name := "equals", desc := "(Ljava/lang/Object;)Z" } : Jvm.MethodName) jdk_42_method_66_code (3 : Nat) (Option.some Jvm.ClassFile.FieldType.boolean)).before args0 about1 = true := code_word (m := ⟨7, 2⟩) (meth := k7m2) (c := k7c2) (by decide +kernel) rfl rfl rfl (by decide +kernel)
set_option maxRecDepth 65536 in
theorem w_c11 : (Jvm.Cond.code ({ cls := "com/example/valuta/valuta/api/TextField", name := "maxLength", desc := "()I" } : Jvm.MethodName) prog_19_method_8_code (1 : Nat) (Option.some Jvm.ClassFile.FieldType.int)).before args0 about1 = true := code_word (m := ⟨10, 3⟩) (meth := k10m3) (c := k10c3) (by decide +kernel) rfl rfl rfl (by decide +kernel)
set_option maxRecDepth 65536 in
theorem w_c12 : (Jvm.Cond.code ({ cls := "com/example/valuta/valuta/api/TextField", name := "hostId", desc := "()Z" } : Jvm.MethodName) prog_19_method_9_code (1 : Nat) (Option.some Jvm.ClassFile.FieldType.boolean)).before args0 about1 = true := code_word (m := ⟨10, 4⟩) (meth := k10m4) (c := k10c4) (by decide +kernel) rfl rfl rfl (by decide +kernel)
set_option maxRecDepth 65536 in
theorem w_c13 : (Jvm.Cond.code ({ cls := "java/lang/String", name := "<init>", desc := "([C)V" } : Jvm.MethodName) jdk_42_method_3_code (2 : Nat) (Option.none : Option Jvm.ClassFile.FieldType)).before args0 about1 = true := code_word (m := ⟨7, 1⟩) (meth := k7m1) (c := k7c1) (by decide +kernel) rfl rfl rfl (by decide +kernel)
set_option maxRecDepth 65536 in
theorem w_c14 : (Jvm.Cond.code ({ cls := "java/lang/String", name := "<init>", desc := "([CIILjava/lang/Void;)V" } : Jvm.MethodName) jdk_42_method_149_code (6 : Nat) (Option.none : Option Jvm.ClassFile.FieldType)).before args0 about1 = true := code_word (m := ⟨7, 4⟩) (meth := k7m4) (c := k7c4) (by decide +kernel) rfl rfl rfl (by decide +kernel)
set_option maxRecDepth 65536 in
theorem w_c15 : (Jvm.Cond.code ({ cls := "java/lang/StringUTF16", name := "compress", desc := "([CII)[B" } : Jvm.MethodName) jdk_52_method_16_code (6 : Nat) (Option.some (Jvm.ClassFile.FieldType.array Jvm.ClassFile.FieldType.byte))).before args0 about1 = true := code_word (m := ⟨11, 2⟩) (meth := k11m2) (c := k11c2) (by decide +kernel) rfl rfl rfl (by decide +kernel)
set_option maxRecDepth 65536 in
theorem w_c16 : (Jvm.Cond.code ({ cls := "java/lang/StringUTF16", name := "compress", desc := "([CI[BII)I" } : Jvm.MethodName) jdk_52_method_21_code (7 : Nat) (Option.some Jvm.ClassFile.FieldType.int)).before args0 about1 = true := code_word (m := ⟨11, 3⟩) (meth := k11m3) (c := k11c3) (by decide +kernel) rfl rfl rfl (by decide +kernel)
set_option maxRecDepth 65536 in
theorem w_c17 : (Jvm.Cond.code ({ cls := "java/lang/StringUTF16", name := "coderFromArrayLen", desc := "([BI)B" } : Jvm.MethodName) jdk_52_method_15_code (2 : Nat) (Option.some Jvm.ClassFile.FieldType.byte)).before args0 about1 = true := code_word (m := ⟨11, 1⟩) (meth := k11m1) (c := k11c1) (by decide +kernel) rfl rfl rfl (by decide +kernel)
def codes1 : List Jvm.Cond := [Jvm.Cond.code x code maxLocals ret, Jvm.Cond.code ({ cls := "java/lang/String", name := "valueOf", desc := "(C)Ljava/lang/String;" } : Jvm.MethodName) jdk_42_method_139_code (1 : Nat) (Option.some (Jvm.ClassFile.FieldType.object "java/lang/String")), Jvm.Cond.code ({ cls := "java/lang/StringLatin1", name := "canEncode", desc := "(C)Z" } : Jvm.MethodName) jdk_43_method_3_code (1 : Nat) (Option.some Jvm.ClassFile.FieldType.boolean), Jvm.Cond.code ({ cls := "java/lang/StringLatin1", name := "toBytes", desc := "(C)[B" } : Jvm.MethodName) jdk_43_method_46_code (1 : Nat) (Option.some (Jvm.ClassFile.FieldType.array Jvm.ClassFile.FieldType.byte)), Jvm.Cond.code ({ cls := "java/lang/String", name := "<init>", desc := "([BB)V" } : Jvm.MethodName) jdk_42_method_151_code (3 : Nat) (Option.none : Option Jvm.ClassFile.FieldType), Jvm.Cond.code ({ cls := "java/lang/Object", name := "<init>", desc := "()V" } : Jvm.MethodName) object_method_1_code (1 : Nat) (Option.none : Option Jvm.ClassFile.FieldType), Jvm.Cond.code ({ cls := "com/example/valuta/valuta/api/TextField", name := "hostId", desc := "(Ljava/lang/String;)Lcom/example/valuta/valuta/api/TextField;" } : Jvm.MethodName) prog_19_method_3_code (1 : Nat) (Option.some (Jvm.ClassFile.FieldType.object "com/example/valuta/valuta/api/TextField")), Jvm.Cond.code ({ cls := "com/example/valuta/valuta/api/TextField", name := "<init>", desc := "(Ljava/lang/String;IZ)V" } : Jvm.MethodName) prog_19_method_2_code (4 : Nat) (Option.none : Option Jvm.ClassFile.FieldType), Jvm.Cond.code ({ cls := "java/lang/Record", name := "<init>", desc := "()V" } : Jvm.MethodName) jdk_30_method_1_code (1 : Nat) (Option.none : Option Jvm.ClassFile.FieldType), Jvm.Cond.code ({ cls := "com/example/valuta/valuta/api/TextField", name := "name", desc := "()Ljava/lang/String;" } : Jvm.MethodName) prog_19_method_7_code (1 : Nat) (Option.some (Jvm.ClassFile.FieldType.object "java/lang/String")), Jvm.Cond.code ({ cls := "java/lang/String", name := "equals", desc := "(Ljava/lang/Object;)Z" } : Jvm.MethodName) jdk_42_method_66_code (3 : Nat) (Option.some Jvm.ClassFile.FieldType.boolean), Jvm.Cond.code ({ cls := "com/example/valuta/valuta/api/TextField", name := "maxLength", desc := "()I" } : Jvm.MethodName) prog_19_method_8_code (1 : Nat) (Option.some Jvm.ClassFile.FieldType.int), Jvm.Cond.code ({ cls := "com/example/valuta/valuta/api/TextField", name := "hostId", desc := "()Z" } : Jvm.MethodName) prog_19_method_9_code (1 : Nat) (Option.some Jvm.ClassFile.FieldType.boolean), Jvm.Cond.code ({ cls := "java/lang/String", name := "<init>", desc := "([C)V" } : Jvm.MethodName) jdk_42_method_3_code (2 : Nat) (Option.none : Option Jvm.ClassFile.FieldType), Jvm.Cond.code ({ cls := "java/lang/String", name := "<init>", desc := "([CIILjava/lang/Void;)V" } : Jvm.MethodName) jdk_42_method_149_code (6 : Nat) (Option.none : Option Jvm.ClassFile.FieldType), Jvm.Cond.code ({ cls := "java/lang/StringUTF16", name := "compress", desc := "([CII)[B" } : Jvm.MethodName) jdk_52_method_16_code (6 : Nat) (Option.some (Jvm.ClassFile.FieldType.array Jvm.ClassFile.FieldType.byte)), Jvm.Cond.code ({ cls := "java/lang/StringUTF16", name := "compress", desc := "([CI[BII)I" } : Jvm.MethodName) jdk_52_method_21_code (7 : Nat) (Option.some Jvm.ClassFile.FieldType.int), Jvm.Cond.code ({ cls := "java/lang/StringUTF16", name := "coderFromArrayLen", desc := "([BI)B" } : Jvm.MethodName) jdk_52_method_15_code (2 : Nat) (Option.some Jvm.ClassFile.FieldType.byte)]
set_option maxRecDepth 65536 in
theorem codes_eq : words1.filter isCode = codes1 := rfl
theorem w_codes : ∀ c ∈ words1.filter isCode, c.before args0 about1 = true := by
  rw [codes_eq]
  intro c hc
  simp only [codes1, List.mem_cons, List.not_mem_nil, or_false] at hc
  rcases hc with rfl | rfl | rfl | rfl | rfl | rfl | rfl | rfl | rfl | rfl | rfl | rfl | rfl | rfl | rfl | rfl | rfl | rfl
  · exact w_c0
  · exact w_c1
  · exact w_c2
  · exact w_c3
  · exact w_c4
  · exact w_c5
  · exact w_c6
  · exact w_c7
  · exact w_c8
  · exact w_c9
  · exact w_c10
  · exact w_c11
  · exact w_c12
  · exact w_c13
  · exact w_c14
  · exact w_c15
  · exact w_c16
  · exact w_c17
set_option maxRecDepth 65536 in
theorem w_t1 : (words1.take 24).all (fun c => isCode c || c.before args0 about1) = true := by decide +kernel
set_option maxRecDepth 65536 in
theorem w_t2 : ((words1.drop 24).take 24).all (fun c => isCode c || c.before args0 about1) = true := by decide +kernel
set_option maxRecDepth 65536 in
theorem w_t3 : (((words1.drop 24).drop 24).take 24).all (fun c => isCode c || c.before args0 about1) = true := by decide +kernel
set_option maxRecDepth 65536 in
theorem w_t4 : (((words1.drop 24).drop 24).drop 24).all (fun c => isCode c || c.before args0 about1) = true := by decide +kernel
theorem w_tables : (allAtoms (Jvm.Cond.code x code maxLocals ret :: tables_1)).before args0 about1 = true := by
  rw [allAtoms_all]
  show words1.all (fun c => c.before args0 about1) = true
  refine all_split ?_ w_codes
  rw [← List.take_append_drop 24 words1, List.all_append, w_t1, ← List.take_append_drop 24 (words1.drop 24), List.all_append, w_t2, ← List.take_append_drop 24 ((words1.drop 24).drop 24), List.all_append, w_t3, w_t4]
  rfl
set_option maxRecDepth 65536 in
theorem w_rest : rest_1_c.before args0 about1 = true := by decide +kernel
set_option maxRecDepth 65536 in
theorem w_case : (Jvm.Cond.and given_1 narrow_1).before args0 about1 = true := by decide +kernel
set_option maxRecDepth 65536 in
theorem w_consts : constsHeld consts_1 about1 := Jvm.Lit.constsHeldB_iff.mp (by decide +kernel)
theorem w_applies : (headSpec (Jvm.Cond.code x code maxLocals ret :: tables_1) room_1).applies x e0.platform about1 = true :=
  (Spec.applies_iff w_frames).mpr ⟨w_running, w_runnable, w_alone, w_named, w_hears, w_ripe, w_room, w_tables⟩
theorem atStart : AtStart classFile x code maxLocals ret World_1 tables_1 room_1 Calls_1 rest_1 Pre_1 launch0 p0 e0 about1 theMethod args0 below0 :=
  ⟨lists_1, trivial, launch0.admits_env _ _ _, launch0.least_env, fairChoices_fair.cas, fairChoices_fair.clock, w_frames, w_args, w_heap, w_applies, ⟨w_consts, trivial⟩, w_rest, w_case⟩
end start1
theorem witness_1 : WitnessClaimed_1 := ⟨start1.p0, start1.e0, start1.about1, start1.theMethod, start1.args0, start1.below0, start1.atStart⟩
end Jvm.Pilot.@@N@@
