import JvmDerived
import JvmDerived.Pilot.@@N@@Statement
import JvmDerived.Pilot.@@N@@Code
set_option linter.unusedVariables false
set_option linter.unusedSimpArgs false
namespace Jvm.Own
open Jvm Jvm.ClassFile Sem Op Lib Jvm.Free Jvm.Stand Jvm.LawKit Jvm.RoadKit
/-! MY LAYER: a goal 'Wk' over the library's Stand (from any state that stands here with the heap h, the walk comes to its end and Q holds), one rule a step; W: may the walk intern (wide frame). -/
def Bs (W : Bool) (s : State) (vm0 : Vm) (sz : Nat) : Prop := match W with
  | false => vm0 = s.vm
  | true => ∃ k0, s.Since vm0 k0 ∧ k0 ≤ sz
def En (W : Bool) (s : State) (o : Outcome) (t : State) (L : List Loc) (k n : Nat) : Prop := match W with
  | false => FrameEnd s o t L k n
  | true => ReturnedEndW s o t L k n
def Cx (Z : State) (p : Program) (s : State) (m : MethodId) (meth : Method) (c : Code) (y : MethodName) (bytes : ByteArray) (maxL : Nat) (ret : Option FieldType) : Prop :=
  p.tables.exec = Jvm.exec ∧ c.code = bytes ∧ c.maxLocals = maxL ∧ Z.Warmed39 s.vm ∧ s.vm.findClass y.cls = some m.cls ∧ meth.name = y.name ∧ meth.sig.returnType = ret ∧ meth.locks = false
def Wk (W : Bool) (p : Program) (l : Launch) (e : Env) (R : Room) (s : State) (m : MethodId) (args : Array Value) (below : List Frame) (meth : Method) (c : Code) (n0 : Nat) (Q : Option Value → Heap → Prop) (h : Heap) (k n : Nat) (g : JFrame) : Prop :=
  ∀ T L vm0, Stand p l e R (s.setVm vm0) m args below meth c T L k n → Bs W s vm0 h.size → T.heap = h → Fr n0 L →
    ∃ s₂ o, Steps p.tables e below (T.setTop g) s₂ ∧ s₂.status = .running ∧ Ended s₂ below o ∧ ∃ v L, o = .returned v ∧ (Q v s₂.heap ∧ Fr n0 L) ∧ En W s o s₂ L R.cells R.slots
def Met (W : Bool) (l : Launch) (Z : State) (n0 : Nat) (y : MethodName) (bytes : ByteArray) (maxL : Nat) (ret : Option FieldType) (rm : Room) (as : Array Value) (h : Heap) (Q : Option Value → Heap → Prop) : Prop :=
  ∀ ws, MetFree l y (head1 (Cond.code y bytes maxL ret :: ws) rm) (fun a U => a = as ∧ Z.Warmed39 U.vm ∧ U.heap = h) (fun _ _ _ _ _ => True)
    (fun _ U o U' => ∃ v L, o = .returned v ∧ (Q v U'.heap ∧ Fr n0 L) ∧ En W U o U' L rm.cells rm.slots)
theorem Bs.start (W : Bool) (s : State) (sz : Nat) : Bs W s s.vm sz := by
  cases W
  · rfl
  · exact ⟨0, (State.WarmedH.refl s).since 0, Nat.zero_le _⟩
theorem Bs.mono {W : Bool} {s : State} {vm0 : Vm} {a b : Nat} (B : Bs W s vm0 a) (q : a ≤ b) : Bs W s vm0 b := by
  cases W
  · exact B
  · obtain ⟨k0, h1, h2⟩ := B; exact ⟨k0, h1, Nat.le_trans h2 q⟩
theorem Bs.warm {W : Bool} {s : State} {vm0 : Vm} {a : Nat} (B : Bs W s vm0 a) : s.Warmed39 vm0 := by
  cases W
  · cases (B : vm0 = s.vm); exact State.Warmed39.refl s
  · obtain ⟨k0, h1, h2⟩ := B; exact h1.1
section Cxs
variable {W : Bool} {Z : State} {p : Program} {s : State} {m : MethodId} {meth : Method} {c : Code} {y : MethodName} {bytes : ByteArray} {maxL : Nat} {ret : Option FieldType}
theorem Cx.hx (C : Cx Z p s m meth c y bytes maxL ret) : p.tables.exec = Jvm.exec := C.1
theorem Cx.hby (C : Cx Z p s m meth c y bytes maxL ret) : c.code = bytes := C.2.1
theorem Cx.hml (C : Cx Z p s m meth c y bytes maxL ret) : c.maxLocals = maxL := C.2.2.1
theorem Cx.hZ (C : Cx Z p s m meth c y bytes maxL ret) : Z.Warmed39 s.vm := C.2.2.2.1
theorem Cx.hown (C : Cx Z p s m meth c y bytes maxL ret) : s.vm.findClass y.cls = some m.cls := C.2.2.2.2.1
theorem Cx.hnm (C : Cx Z p s m meth c y bytes maxL ret) : meth.name = y.name := C.2.2.2.2.2.1
theorem Cx.hret (C : Cx Z p s m meth c y bytes maxL ret) : meth.sig.returnType = ret := C.2.2.2.2.2.2.1
theorem Cx.hlk (C : Cx Z p s m meth c y bytes maxL ret) : meth.locks = false := C.2.2.2.2.2.2.2
theorem Cx.wZ (C : Cx Z p s m meth c y bytes maxL ret) {vm0 : Vm} {a : Nat} (B : Bs W s vm0 a) : Z.Warmed39 (s.setVm vm0).vm := State.Warmed39.trans (t := s) C.hZ B.warm
theorem Cx.wo (C : Cx Z p s m meth c y bytes maxL ret) {vm0 : Vm} {a : Nat} (B : Bs W s vm0 a) : (s.setVm vm0).vm.findClass y.cls = some m.cls := by
  show vm0.findClass y.cls = _
  rw [B.warm.alike.findClass]; exact C.hown
end Cxs
theorem Met.of {W : Bool} {l : Launch} {Z : State} {n0 : Nat} {y : MethodName} {bytes : ByteArray} {maxL : Nat} {ret : Option FieldType} {rm : Room} {as : Array Value} {h : Heap} {Q : Option Value → Heap → Prop}
    (hpn : plainFor y = true) (Ls : Array Slot) (hef : ∀ m, entryFrame m as maxL = mkF m 0 Ls [])
    (H : ∀ p e s m below meth c, Cx Z p s m meth c y bytes maxL ret → Wk W p l e rm s m as below meth c n0 Q h 0 0 (mkF m 0 Ls [])) : Met W l Z n0 y bytes maxL ret rm as h Q := by
  intro ws
  refine MetFree.of_bodySF hpn hisR ?_
  intro p e s m args below meth c s₁ Bd hml0 hP hK
  obtain ⟨ha, hZ, hh⟩ := hP
  have hown := findClass_of_methodNamed Bd.named
  have hnm := (name_of_methodNamed Bd.named Bd.method).1
  have e0 : s₁.heap = h := by rw [← hh, Bd.state]; rfl
  have X0 : Stand p l e rm s m args below meth c s₁ [] 0 0 := Stand.of_body Bd
  rw [ha] at X0 ⊢
  obtain ⟨s₂, o, h1, h2⟩ := H p e s m below meth c ⟨Bd.exec, Bd.bytes, hml0, hZ, hown, hnm, Bd.returns, Bd.notSynchronized⟩ s₁ [] s.vm X0 (Bs.start W s _) e0 (Fr.nil n0)
  exact ⟨s₂, o, castTop (hef m) h1, h2⟩
section Rules
variable {W : Bool} {Z : State} {p : Program} {l : Launch} {e : Env} {R : Room} {s : State} {m : MethodId} {args : Array Value} {below : List Frame} {meth : Method} {c : Code} {y : MethodName} {bytes : ByteArray} {maxL : Nat} {ret : Option FieldType} {n0 : Nat} {Q : Option Value → Heap → Prop} {h : Heap} {k n : Nat} {g g' : JFrame} {a0 : Array Value}
theorem Wk.more {k' n' : Nat} (q1 : k ≤ k') (q2 : n ≤ n') (H : Wk W p l e R s m args below meth c n0 Q h k' n' g) : Wk W p l e R s m args below meth c n0 Q h k n g :=
  fun T L vm0 X B eT N => H T L vm0 (X.more q1 q2) B eT N
theorem Wk.st (f : ∀ {T : State} {L : List Loc} {vm0 : Vm}, Stand p l e R (s.setVm vm0) m args below meth c T L k n → ∀ t, Steps p.tables e below (T.setTop g') t → Steps p.tables e below (T.setTop g) t)
    (H : Wk W p l e R s m args below meth c n0 Q h k n g') : Wk W p l e R s m args below meth c n0 Q h k n g := by
  intro T L vm0 X B eT N
  obtain ⟨s₂, o, h1, h2⟩ := H T L vm0 X B eT N
  exact ⟨s₂, o, f X _ h1, h2⟩
/-- a step that needs the tables (as they stand at vm0) and the heap, and leaves the heap -/
theorem Wk.stZ (C : Cx Z p s m meth c y bytes maxL ret) (f : ∀ {T : State} {L : List Loc} {vm0 : Vm}, Stand p l e R (s.setVm vm0) m args below meth c T L k n → Z.Warmed39 (s.setVm vm0).vm → (s.setVm vm0).vm.findClass y.cls = some m.cls → T.heap = h → ∃ T', Stand p l e R (s.setVm vm0) m args below meth c T' L k n ∧ T'.heap = h ∧ ∀ t, Steps p.tables e below (T'.setTop g') t → Steps p.tables e below (T.setTop g) t)
    (H : Wk W p l e R s m args below meth c n0 Q h k n g') : Wk W p l e R s m args below meth c n0 Q h k n g := by
  intro T L vm0 X B eT N
  obtain ⟨T', X', e', st⟩ := f X (C.wZ B) (C.wo B) eT
  obtain ⟨s₂, o, h1, h2⟩ := H T' L vm0 X' B e' N
  exact ⟨s₂, o, st _ h1, h2⟩
/-- a step that writes one place of a new cell -/
theorem Wk.stW (C : Cx Z p s m meth c y bytes maxL ret) {a : Addr} {sl : Nat} {v : Value} (ge : n0 ≤ a) (f : ∀ {T : State} {L : List Loc} {vm0 : Vm}, Stand p l e R (s.setVm vm0) m args below meth c T L k n → Z.Warmed39 (s.setVm vm0).vm → (s.setVm vm0).vm.findClass y.cls = some m.cls → T.heap = h → ∃ T' h', Stand p l e R (s.setVm vm0) m args below meth c T' (L ++ [⟨a, sl⟩]) k n ∧ T'.heap = h' ∧ Wr h h' a sl v ∧ ∀ t, Steps p.tables e below (T'.setTop g') t → Steps p.tables e below (T.setTop g) t)
    (H : ∀ h', Wr h h' a sl v → Wk W p l e R s m args below meth c n0 Q h' k n g') : Wk W p l e R s m args below meth c n0 Q h k n g := by
  intro T L vm0 X B eT N
  obtain ⟨T', h', X', e', Wh, st⟩ := f X (C.wZ B) (C.wo B) eT
  obtain ⟨s₂, o, h1, h2⟩ := H h' Wh T' _ vm0 X' (B.mono (Nat.le_of_eq Wh.size.symm)) e' (Fr.snoc X' N ge)
  exact ⟨s₂, o, st _ h1, h2⟩
theorem Wk.ldcI (C : Cx Z p s m meth c y bytes maxL ret) {index : Nat} {v : Int32} (w : (Cond.constant y.cls index v).before a0 Z = true) {pc : Nat} {Ls : Array Slot} {st : List Value} (hd : decode bytes pc = .ok (.ldc index, 2))
    (H : Wk W p l e R s m args below meth c n0 Q h k n (mkF m (pc + 2) Ls (.int v :: st))) : Wk W p l e R s m args below meth c n0 Q h k n (mkF m pc Ls st) :=
  Wk.stZ C (fun X hZ ho eT => ⟨_, X, eT, fun t q => X.ldcI C.hx ho (mvT hZ w) rfl (hb C.hby hd) q⟩) H
theorem Wk.ldc2J (C : Cx Z p s m meth c y bytes maxL ret) {index : Nat} {v : Int64} (w : (Cond.constantLong y.cls index v).before a0 Z = true) {pc : Nat} {Ls : Array Slot} {st : List Value} (hd : decode bytes pc = .ok (.ldc2_w index, 3))
    (H : Wk W p l e R s m args below meth c n0 Q h k n (mkF m (pc + 3) Ls (.long v :: st))) : Wk W p l e R s m args below meth c n0 Q h k n (mkF m pc Ls st) :=
  Wk.stZ C (fun X hZ ho eT => ⟨_, X, eT, fun t q => X.ldc2J C.hx ho (mvT hZ w) rfl (hb C.hby hd) q⟩) H
theorem Wk.ldc2D (C : Cx Z p s m meth c y bytes maxL ret) {index : Nat} {v : UInt64} (w : (Cond.constantDouble y.cls index v).before a0 Z = true) {pc : Nat} {Ls : Array Slot} {st : List Value} (hd : decode bytes pc = .ok (.ldc2_w index, 3))
    (H : Wk W p l e R s m args below meth c n0 Q h k n (mkF m (pc + 3) Ls (.double v :: st))) : Wk W p l e R s m args below meth c n0 Q h k n (mkF m pc Ls st) :=
  Wk.stZ C (fun X hZ ho eT => ⟨_, X, eT, fun t q => X.ldc2DoubleC C.hx ho (mvT hZ w) (g := mkF m pc Ls st) rfl (hb C.hby hd) _ q⟩) H
theorem Wk.ldcF (C : Cx Z p s m meth c y bytes maxL ret) {index : Nat} {v : UInt32} (w : (Cond.constantFloat y.cls index v).before a0 Z = true) {pc : Nat} {Ls : Array Slot} {st : List Value} (hd : decode bytes pc = .ok (.ldc index, 2))
    (H : Wk W p l e R s m args below meth c n0 Q h k n (mkF m (pc + 2) Ls (.float v :: st))) : Wk W p l e R s m args below meth c n0 Q h k n (mkF m pc Ls st) :=
  Wk.stZ C (fun X hZ ho eT => ⟨_, X, eT, fun t q => X.ldcFloatC C.hx ho (mvT hZ w) (g := mkF m pc Ls st) rfl (hb C.hby hd) _ q⟩) H
theorem Wk.cast (C : Cx Z p s m meth c y bytes maxL ret) {K : String} {index : Nat} (w : (Cond.classLink y.cls index K).before a0 Z = true) {a : Addr} (F : Ins Z h a K true) {pc : Nat} {Ls : Array Slot} {st : List Value} (hd : decode bytes pc = .ok (.checkcast index, 3))
    (H : Wk W p l e R s m args below meth c n0 Q h k n (mkF m (pc + 3) Ls (.ref a :: st))) : Wk W p l e R s m args below meth c n0 Q h k n (mkF m pc Ls (.ref a :: st)) :=
  Wk.stZ C (fun X hZ ho eT => castY X C.hx hZ ho w eT F (g := mkF m pc Ls (.ref a :: st)) rfl rfl (hb C.hby hd)) H
theorem Wk.getS (C : Cx Z p s m meth c y bytes maxL ret) {O nm d : String} {index : Nat} (w : (Cond.fieldLink y.cls index O nm d).before a0 Z = true) {v : Value} (F : Sta Z h O nm d v) {pc : Nat} {Ls : Array Slot} {st : List Value} (hd : decode bytes pc = .ok (.getstatic index, 3))
    (H : Wk W p l e R s m args below meth c n0 Q h k n (mkF m (pc + 3) Ls (v :: st))) : Wk W p l e R s m args below meth c n0 Q h k n (mkF m pc Ls st) :=
  Wk.stZ C (fun X hZ ho eT => Jvm.RoadKit.getS (host := "") X C.hx hZ ho w Via.refl eT F (g := mkF m pc Ls st) rfl (hb C.hby hd)) H
theorem Wk.getF (C : Cx Z p s m meth c y bytes maxL ret) {R0 O nm d : String} {index : Nat} (w : (Cond.fieldLink y.cls index R0 nm d).before a0 Z = true) (via : Via Z R0 O nm d) {a : Addr} {v : Value} (F : Fld Z h a O nm d v) {pc : Nat} {Ls : Array Slot} {st : List Value} (hd : decode bytes pc = .ok (.getfield index, 3))
    (H : Wk W p l e R s m args below meth c n0 Q h k n (mkF m (pc + 3) Ls (v :: st))) : Wk W p l e R s m args below meth c n0 Q h k n (mkF m pc Ls (.ref a :: st)) :=
  Wk.stZ C (fun X hZ ho eT => Jvm.RoadKit.getF (host := "") X C.hx hZ ho (Or.inl w) via eT F (g := mkF m pc Ls (.ref a :: st)) rfl rfl (hb C.hby hd)) H
theorem Wk.putF (C : Cx Z p s m meth c y bytes maxL ret) {R0 O nm d K : String} {index kk : Nat} {ty : FieldType} (w : (Cond.fieldLink y.cls index R0 nm d).before a0 Z = true) (via : Via Z R0 O nm d) {a : Addr} {v v' old : Value} (F : Fld Z h a O nm d old) (E : Exa Z h a K)
    (L : (Cond.lays K O nm d).before a0 Z = true ∨ ((Cond.laysFinal K O nm d).before a0 Z = true ∧ y.cls = O ∧ y.name = "<init>")) (wi : (Cond.instantiable K kk).before a0 Z = true) (hty : parseFieldDescriptor d = some ty) (hn : narrow ty v = v') (hf : fits ty v' = true) (ge : n0 ≤ a)
    {pc : Nat} {Ls : Array Slot} {st : List Value} (hd : decode bytes pc = .ok (.putfield index, 3))
    (H : ∀ h', Wr h h' a (Jvm.RoadKit.slotOf Z O nm d) v' → Wk W p l e R s m args below meth c n0 Q h' k n (mkF m (pc + 3) Ls st)) : Wk W p l e R s m args below meth c n0 Q h k n (mkF m pc Ls (v :: .ref a :: st)) :=
  Wk.stW C ge (fun X hZ ho eT => Jvm.RoadKit.putFN X C.hx hZ ho w via eT F E (L.imp id fun q => ⟨q.1, q.2.1, C.hnm.trans q.2.2⟩) wi hty hn hf (g := mkF m pc Ls (v :: .ref a :: st)) rfl rfl (hb C.hby hd)) H
theorem Wk.newO (C : Cx Z p s m meth c y bytes maxL ret) {K : String} {index sz : Nat} (w : (Cond.classLink y.cls index K).before a0 Z = true) (wi : (Cond.instantiable K sz).before a0 Z = true) (wz : (Cond.initialized K).before a0 Z = true) {pc : Nat} {Ls : Array Slot} {st : List Value} (hd : decode bytes pc = .ok (.new index, 3)) (hc : k + 1 ≤ R.cells) (hl : n + sz ≤ R.slots)
    (H : ∀ h' a, a = h.size → Ext h h' → Exa Z h' a K → (∀ {O nm d : String} {ty : FieldType}, Laid Z a0 K O nm d → parseFieldDescriptor d = some ty → Fld Z h' a O nm d (defaultValue ty)) → Wk W p l e R s m args below meth c n0 Q h' (k + 1) (n + sz) (mkF m (pc + 3) Ls (.ref a :: st))) :
    Wk W p l e R s m args below meth c n0 Q h k n (mkF m pc Ls st) := by
  intro T L vm0 X B eT N
  obtain ⟨T', h', X', e', E, A, D, -, st⟩ := Jvm.RoadKit.newO X C.hx (C.wZ B) (C.wo B) w wi wz eT (g := mkF m pc Ls st) rfl (hb C.hby hd) hc hl
  obtain ⟨s₂, o, h1, h2⟩ := H h' _ rfl E A D T' L vm0 X' (B.mono E.1) e' N
  exact ⟨s₂, o, st _ h1, h2⟩
theorem Wk.newP (C : Cx Z p s m meth c y bytes maxL ret) {aty : ArrayType} (w : (Cond.arrayClass (newarray.typeOf aty)).before a0 Z = true) {z : Int32} (hz : ¬ z < 0) {cap : Nat} (hcap : z.toNatClampNeg ≤ cap) (hbig : cap * 8 ≤ 536870912) {pc : Nat} {Ls : Array Slot} {st : List Value} (hd : decode bytes pc = .ok (.newarray aty, 2)) (hc : k + 1 ≤ R.cells) (hl : n + cap ≤ R.slots)
    (H : ∀ h' a cA, a = h.size → Ext h h' → Arr Z h' a (newA cA (newarray.typeOf aty) z) (newarray.typeOf aty) → Wk W p l e R s m args below meth c n0 Q h' (k + 1) (n + cap) (mkF m (pc + 2) Ls (.ref a :: st))) :
    Wk W p l e R s m args below meth c n0 Q h k n (mkF m pc Ls (.int z :: st)) := by
  intro T L vm0 X B eT N
  obtain ⟨T', h', cA, X', e', E, A, st⟩ := Jvm.RoadKit.newP X C.hx (C.wZ B) w eT (g := mkF m pc Ls (.int z :: st)) rfl (hb C.hby hd) rfl hz hcap hbig hc hl
  obtain ⟨s₂, o, h1, h2⟩ := H h' _ cA rfl E A T' L vm0 X' (B.mono E.1) e' N
  exact ⟨s₂, o, st _ h1, h2⟩
theorem Wk.newR (C : Cx Z p s m meth c y bytes maxL ret) {K : String} {index : Nat} (w1 : (Cond.classLink y.cls index K).before a0 Z = true) (w2 : (Cond.arrayOver (.object K)).before a0 Z = true) {z : Int32} (hz : ¬ z < 0) {cap : Nat} (hcap : z.toNatClampNeg ≤ cap) (hbig : cap * 8 ≤ 536870912) {pc : Nat} {Ls : Array Slot} {st : List Value} (hd : decode bytes pc = .ok (.anewarray index, 3)) (hc : k + 1 ≤ R.cells) (hl : n + cap ≤ R.slots)
    (H : ∀ h' a cA, a = h.size → Ext h h' → Arr Z h' a (newA cA (.object K) z) (.object K) → Ovr Z cA K → Wk W p l e R s m args below meth c n0 Q h' (k + 1) (n + cap) (mkF m (pc + 3) Ls (.ref a :: st))) :
    Wk W p l e R s m args below meth c n0 Q h k n (mkF m pc Ls (.int z :: st)) := by
  intro T L vm0 X B eT N
  obtain ⟨T', h', cA, X', e', E, A, O, st⟩ := Jvm.RoadKit.newR X C.hx (C.wZ B) (C.wo B) w1 w2 eT (g := mkF m pc Ls (.int z :: st)) rfl (hb C.hby hd) rfl hz hcap hbig hc hl
  obtain ⟨s₂, o, h1, h2⟩ := H h' _ cA rfl E A O T' L vm0 X' (B.mono E.1) e' N
  exact ⟨s₂, o, st _ h1, h2⟩
theorem Wk.stI (C : Cx Z p s m meth c y bytes maxL ret) {a : Addr} {cl : Cell} (A : Arr Z h a cl .int) {j x : Int32} (hj : ¬ (j < 0 ∨ cl.slots.size ≤ j.toNatClampNeg)) (ge : n0 ≤ a) {pc : Nat} {Ls : Array Slot} {st : List Value} (hd : decode bytes pc = .ok (.iastore, 1))
    (H : ∀ h', Wr h h' a j.toNatClampNeg (.int x) → Wk W p l e R s m args below meth c n0 Q h' k n (mkF m (pc + 1) Ls st)) : Wk W p l e R s m args below meth c n0 Q h k n (mkF m pc Ls (.int x :: .int j :: .ref a :: st)) :=
  Wk.stW C ge (fun X hZ ho eT => Jvm.RoadKit.stI X C.hx hZ eT A hj (g := mkF m pc Ls (.int x :: .int j :: .ref a :: st)) rfl rfl (hb C.hby hd)) H
theorem Wk.stJ (C : Cx Z p s m meth c y bytes maxL ret) {a : Addr} {cl : Cell} (A : Arr Z h a cl .long) {j : Int32} {x : Int64} (hj : ¬ (j < 0 ∨ cl.slots.size ≤ j.toNatClampNeg)) (ge : n0 ≤ a) {pc : Nat} {Ls : Array Slot} {st : List Value} (hd : decode bytes pc = .ok (.lastore, 1))
    (H : ∀ h', Wr h h' a j.toNatClampNeg (.long x) → Wk W p l e R s m args below meth c n0 Q h' k n (mkF m (pc + 1) Ls st)) : Wk W p l e R s m args below meth c n0 Q h k n (mkF m pc Ls (.long x :: .int j :: .ref a :: st)) :=
  Wk.stW C ge (fun X hZ ho eT => Jvm.RoadKit.stJ X C.hx hZ eT A hj (g := mkF m pc Ls (.long x :: .int j :: .ref a :: st)) rfl rfl (hb C.hby hd)) H
theorem Wk.stD (C : Cx Z p s m meth c y bytes maxL ret) {a : Addr} {cl : Cell} (A : Arr Z h a cl .double) {j : Int32} {x : UInt64} (hj : ¬ (j < 0 ∨ cl.slots.size ≤ j.toNatClampNeg)) (ge : n0 ≤ a) {pc : Nat} {Ls : Array Slot} {st : List Value} (hd : decode bytes pc = .ok (.dastore, 1))
    (H : ∀ h', Wr h h' a j.toNatClampNeg (.double x) → Wk W p l e R s m args below meth c n0 Q h' k n (mkF m (pc + 1) Ls st)) : Wk W p l e R s m args below meth c n0 Q h k n (mkF m pc Ls (.double x :: .int j :: .ref a :: st)) :=
  Wk.stW C ge (fun X hZ ho eT => Jvm.RoadKit.stD X C.hx hZ eT A hj (g := mkF m pc Ls (.double x :: .int j :: .ref a :: st)) rfl rfl (hb C.hby hd)) H
theorem Wk.stR (C : Cx Z p s m meth c y bytes maxL ret) {a : Addr} {cl : Cell} {ty : FieldType} (A : Arr Z h a cl ty) {j : Int32} {v : Value} (hj : ¬ (j < 0 ∨ cl.slots.size ≤ j.toNatClampNeg)) (hty : ty.isReference = true) (F : Sto Z h a v) (ge : n0 ≤ a) {pc : Nat} {Ls : Array Slot} {st : List Value} (hd : decode bytes pc = .ok (.aastore, 1))
    (H : ∀ h', Wr h h' a j.toNatClampNeg v → Wk W p l e R s m args below meth c n0 Q h' k n (mkF m (pc + 1) Ls st)) : Wk W p l e R s m args below meth c n0 Q h k n (mkF m pc Ls (v :: .int j :: .ref a :: st)) :=
  Wk.stW C ge (fun X hZ ho eT => Jvm.RoadKit.stR X C.hx hZ eT A hj hty F (g := mkF m pc Ls (v :: .int j :: .ref a :: st)) rfl rfl (hb C.hby hd)) H
theorem Wk.len (C : Cx Z p s m meth c y bytes maxL ret) {a : Addr} {cl : Cell} {ty : FieldType} (A : Arr Z h a cl ty) {pc : Nat} {Ls : Array Slot} {st : List Value} (hd : decode bytes pc = .ok (.arraylength, 1))
    (H : Wk W p l e R s m args below meth c n0 Q h k n (mkF m (pc + 1) Ls (.int cl.slots.size.toInt32 :: st))) : Wk W p l e R s m args below meth c n0 Q h k n (mkF m pc Ls (.ref a :: st)) :=
  Wk.stZ C (fun X hZ ho eT => ⟨_, X, eT, X.arraylength C.hx (by rw [eT]; exact A.1) (State.isArrayOf_alike hZ.alike A.2.1) (g := mkF m pc Ls (.ref a :: st)) rfl rfl (hb C.hby hd)⟩) H
theorem Wk.ldI (C : Cx Z p s m meth c y bytes maxL ret) {a : Addr} {cl : Cell} (A : Arr Z h a cl .int) {j : Int32} {v : Value} (hj : ¬ (j < 0 ∨ cl.slots.size ≤ j.toNatClampNeg)) (hv : cl.slots[j.toNatClampNeg]? = some v) {pc : Nat} {Ls : Array Slot} {st : List Value} (hd : decode bytes pc = .ok (.iaload, 1))
    (H : Wk W p l e R s m args below meth c n0 Q h k n (mkF m (pc + 1) Ls (v :: st))) : Wk W p l e R s m args below meth c n0 Q h k n (mkF m pc Ls (.int j :: .ref a :: st)) :=
  Wk.stZ C (fun X hZ ho eT => ⟨_, X, eT, X.iaload C.hx (by rw [eT]; exact A.1) (State.isArrayOf_alike hZ.alike A.2.1) A.2.2 hj hv (g := mkF m pc Ls (.int j :: .ref a :: st)) rfl rfl (hb C.hby hd)⟩) H
theorem Wk.ldJ (C : Cx Z p s m meth c y bytes maxL ret) {a : Addr} {cl : Cell} (A : Arr Z h a cl .long) {j : Int32} {v : Value} (hj : ¬ (j < 0 ∨ cl.slots.size ≤ j.toNatClampNeg)) (hv : cl.slots[j.toNatClampNeg]? = some v) {pc : Nat} {Ls : Array Slot} {st : List Value} (hd : decode bytes pc = .ok (.laload, 1))
    (H : Wk W p l e R s m args below meth c n0 Q h k n (mkF m (pc + 1) Ls (v :: st))) : Wk W p l e R s m args below meth c n0 Q h k n (mkF m pc Ls (.int j :: .ref a :: st)) :=
  Wk.stZ C (fun X hZ ho eT => ⟨_, X, eT, X.laload C.hx (by rw [eT]; exact A.1) (State.isArrayOf_alike hZ.alike A.2.1) A.2.2 hj hv (g := mkF m pc Ls (.int j :: .ref a :: st)) rfl rfl (hb C.hby hd)⟩) H
theorem Wk.ldD (C : Cx Z p s m meth c y bytes maxL ret) {a : Addr} {cl : Cell} (A : Arr Z h a cl .double) {j : Int32} {v : Value} (hj : ¬ (j < 0 ∨ cl.slots.size ≤ j.toNatClampNeg)) (hv : cl.slots[j.toNatClampNeg]? = some v) {pc : Nat} {Ls : Array Slot} {st : List Value} (hd : decode bytes pc = .ok (.daload, 1))
    (H : Wk W p l e R s m args below meth c n0 Q h k n (mkF m (pc + 1) Ls (v :: st))) : Wk W p l e R s m args below meth c n0 Q h k n (mkF m pc Ls (.int j :: .ref a :: st)) :=
  Wk.stZ C (fun X hZ ho eT => ⟨_, X, eT, X.daload C.hx (by rw [eT]; exact A.1) (State.isArrayOf_alike hZ.alike A.2.1) A.2.2 hj hv (g := mkF m pc Ls (.int j :: .ref a :: st)) rfl rfl (hb C.hby hd)⟩) H
theorem Wk.ldR (C : Cx Z p s m meth c y bytes maxL ret) {a : Addr} {cl : Cell} {ty : FieldType} (A : Arr Z h a cl ty) (hty : ty.isReference = true) {j : Int32} {v : Value} (hj : ¬ (j < 0 ∨ cl.slots.size ≤ j.toNatClampNeg)) (hv : cl.slots[j.toNatClampNeg]? = some v) {pc : Nat} {Ls : Array Slot} {st : List Value} (hd : decode bytes pc = .ok (.aaload, 1))
    (H : Wk W p l e R s m args below meth c n0 Q h k n (mkF m (pc + 1) Ls (v :: st))) : Wk W p l e R s m args below meth c n0 Q h k n (mkF m pc Ls (.int j :: .ref a :: st)) :=
  Wk.stZ C (fun X hZ ho eT => ⟨_, X, eT, X.aaload C.hx (by rw [eT]; exact A.1) (State.isArrayOf_alike hZ.alike A.2.1) hty A.2.2 hj hv (g := mkF m pc Ls (.int j :: .ref a :: st)) rfl rfl (hb C.hby hd)⟩) H
theorem Wk.ldZ (C : Cx Z p s m meth c y bytes maxL ret) {a : Addr} {cl : Cell} (A : Arr Z h a cl .boolean) {j : Int32} {v : Value} (hj : ¬ (j < 0 ∨ cl.slots.size ≤ j.toNatClampNeg)) (hv : cl.slots[j.toNatClampNeg]? = some v) {pc : Nat} {Ls : Array Slot} {st : List Value} (hd : decode bytes pc = .ok (.baload, 1))
    (H : Wk W p l e R s m args below meth c n0 Q h k n (mkF m (pc + 1) Ls (v :: st))) : Wk W p l e R s m args below meth c n0 Q h k n (mkF m pc Ls (.int j :: .ref a :: st)) :=
  Wk.stZ C (fun X hZ ho eT => ⟨_, X, eT, X.baloadBooleans C.hx (by rw [eT]; exact A.1) (State.isArrayOf_alike hZ.alike A.2.1) A.2.2 hj hv (g := mkF m pc Ls (.int j :: .ref a :: st)) rfl rfl (hb C.hby hd)⟩) H
theorem Wk.ldC (C : Cx Z p s m meth c y bytes maxL ret) {a : Addr} {cl : Cell} (A : Arr Z h a cl .char) {j : Int32} {v : Value} (hj : ¬ (j < 0 ∨ cl.slots.size ≤ j.toNatClampNeg)) (hv : cl.slots[j.toNatClampNeg]? = some v) {pc : Nat} {Ls : Array Slot} {st : List Value} (hd : decode bytes pc = .ok (.caload, 1))
    (H : Wk W p l e R s m args below meth c n0 Q h k n (mkF m (pc + 1) Ls (v :: st))) : Wk W p l e R s m args below meth c n0 Q h k n (mkF m pc Ls (.int j :: .ref a :: st)) :=
  Wk.stZ C (fun X hZ ho eT => ⟨_, X, eT, X.caload C.hx (by rw [eT]; exact A.1) (State.isArrayOf_alike hZ.alike A.2.1) A.2.2 hj hv (g := mkF m pc Ls (.int j :: .ref a :: st)) rfl rfl (hb C.hby hd)⟩) H
theorem Wk.ldB (C : Cx Z p s m meth c y bytes maxL ret) {a : Addr} {cl : Cell} (A : Arr Z h a cl .byte) {j : Int32} {v : Value} (hj : ¬ (j < 0 ∨ cl.slots.size ≤ j.toNatClampNeg)) (hv : cl.slots[j.toNatClampNeg]? = some v) {pc : Nat} {Ls : Array Slot} {st : List Value} (hd : decode bytes pc = .ok (.baload, 1))
    (H : Wk W p l e R s m args below meth c n0 Q h k n (mkF m (pc + 1) Ls (v :: st))) : Wk W p l e R s m args below meth c n0 Q h k n (mkF m pc Ls (.int j :: .ref a :: st)) :=
  Wk.stZ C (fun X hZ ho eT => ⟨_, X, eT, X.baloadBytes C.hx (by rw [eT]; exact A.1) (State.isArrayOf_alike hZ.alike A.2.1) A.2.2 hj hv (g := mkF m pc Ls (.int j :: .ref a :: st)) rfl rfl (hb C.hby hd)⟩) H
theorem Wk.stZb (C : Cx Z p s m meth c y bytes maxL ret) {a : Addr} {cl : Cell} (A : Arr Z h a cl .boolean) {j x : Int32} (hj : ¬ (j < 0 ∨ cl.slots.size ≤ j.toNatClampNeg)) (ge : n0 ≤ a) {pc : Nat} {Ls : Array Slot} {st : List Value} (hd : decode bytes pc = .ok (.bastore, 1))
    (H : ∀ h', Wr h h' a j.toNatClampNeg (.int (nar .boolean x)) → Wk W p l e R s m args below meth c n0 Q h' k n (mkF m (pc + 1) Ls st)) : Wk W p l e R s m args below meth c n0 Q h k n (mkF m pc Ls (.int x :: .int j :: .ref a :: st)) :=
  Wk.stW C ge (fun X hZ ho eT => Jvm.RoadKit.stZ X C.hx hZ eT A hj (g := mkF m pc Ls (.int x :: .int j :: .ref a :: st)) rfl rfl (hb C.hby hd)) H
theorem Wk.stB (C : Cx Z p s m meth c y bytes maxL ret) {a : Addr} {cl : Cell} (A : Arr Z h a cl .byte) {j x : Int32} (hj : ¬ (j < 0 ∨ cl.slots.size ≤ j.toNatClampNeg)) (ge : n0 ≤ a) {pc : Nat} {Ls : Array Slot} {st : List Value} (hd : decode bytes pc = .ok (.bastore, 1))
    (H : ∀ h', Wr h h' a j.toNatClampNeg (.int (nar .byte x)) → Wk W p l e R s m args below meth c n0 Q h' k n (mkF m (pc + 1) Ls st)) : Wk W p l e R s m args below meth c n0 Q h k n (mkF m pc Ls (.int x :: .int j :: .ref a :: st)) :=
  Wk.stW C ge (fun X hZ ho eT => Jvm.RoadKit.stB X C.hx hZ eT A hj (g := mkF m pc Ls (.int x :: .int j :: .ref a :: st)) rfl rfl (hb C.hby hd)) H
theorem Wk.stC (C : Cx Z p s m meth c y bytes maxL ret) {a : Addr} {cl : Cell} (A : Arr Z h a cl .char) {j x : Int32} (hj : ¬ (j < 0 ∨ cl.slots.size ≤ j.toNatClampNeg)) (ge : n0 ≤ a) {pc : Nat} {Ls : Array Slot} {st : List Value} (hd : decode bytes pc = .ok (.castore, 1))
    (H : ∀ h', Wr h h' a j.toNatClampNeg (.int (nar .char x)) → Wk W p l e R s m args below meth c n0 Q h' k n (mkF m (pc + 1) Ls st)) : Wk W p l e R s m args below meth c n0 Q h k n (mkF m pc Ls (.int x :: .int j :: .ref a :: st)) :=
  Wk.stW C ge (fun X hZ ho eT => Jvm.RoadKit.stC X C.hx hZ eT A hj (g := mkF m pc Ls (.int x :: .int j :: .ref a :: st)) rfl rfl (hb C.hby hd)) H
theorem Wk.initO (C : Cx Z p s m meth c y bytes maxL ret) {index : Nat} (w1 : (Cond.methodLink y.cls index Lib.objectInit).before a0 Z = true) (w2 : (Cond.instanceMethod Lib.objectInit).before a0 Z = true) (w3 : (Cond.code Lib.objectInit ⟨#[0xb1]⟩ 1 none).before a0 Z = true) {a : Addr} {w : Nat} {pc : Nat} {Ls : Array Slot} {st : List Value} (hls : Ls.size = maxL) (hd : decode bytes pc = .ok (.invokespecial index, 3)) (hf : 1 ≤ R.frames) (hw : (st.map fun v => v.category).sum ≤ w) (hl : w + 12 ≤ R.locals)
    (H : Wk W p l e R s m args below meth c n0 Q h k n (mkF m (pc + 3) Ls st)) : Wk W p l e R s m args below meth c n0 Q h k n (mkF m pc Ls (.ref a :: st)) :=
  Wk.stZ C (fun X hZ ho eT => Jvm.RoadKit.initO X C.hx hZ ho w1 w2 w3 eT (g := mkF m pc Ls (.ref a :: st)) rfl (hls.trans C.hml.symm) rfl (hb C.hby hd) hf (W := w) (by show 2 * 0 + _ ≤ _; omega) hl) H
theorem Wk.retV (C : Cx Z p s m meth c y bytes maxL ret) {pc : Nat} {Ls : Array Slot} {w : Value} {t : FieldType} {i : Instr} {rest : List Value} (ht : ret = some t) (hn : narrow t w = w)
    (hi : (i = .ireturn ∧ (t = .int ∨ t = .boolean ∨ t = .byte ∨ t = .char ∨ t = .short) ∧ ∃ z, w = .int z) ∨ (i = .lreturn ∧ t = .long ∧ ∃ z, w = .long z) ∨ (i = .dreturn ∧ t = .double ∧ ∃ z, w = .double z) ∨ (i = .freturn ∧ t = .float ∧ ∃ z, w = .float z) ∨ (i = .areturn ∧ t.isReference = true ∧ w.isRef = true))
    (hd : decode bytes pc = .ok (i, 1)) (hk : k ≤ R.cells) (hs : n ≤ R.slots) (hq : Q (some w) h) : Wk W p l e R s m args below meth c n0 Q h k n (mkF m pc Ls (w :: rest)) := by
  intro T L vm0 X B eT N
  have hlk := C.hlk
  have hv : meth.sig.returnType = none → (some w : Option Value) = none := fun h => by rw [C.hret, ht] at h; cases h
  cases W
  · cases (B : vm0 = s.vm)
    obtain ⟨fs, hr, hrun, hended, hW, hsame⟩ := Stand.leave (s := s) X (v := some w) hv hlk
    refine ⟨_, _, retOut X C.hx (C.hret.trans ht) hn hi (hb C.hby hd) hr, hrun, hended, _, L, rfl, ⟨?_, N⟩, ⟨_, rfl⟩, hW, hsame.mono hk hs⟩
    show Q (some w) T.heap
    rw [eT]; exact hq
  · obtain ⟨k0, hS, hk0⟩ := (B : ∃ k0, s.Since vm0 k0 ∧ k0 ≤ h.size)
    obtain ⟨fs, hr, hrun, hended, hE⟩ := X.leaveW hS (by rw [eT]; exact hk0) (v := some w) hv hlk
    refine ⟨_, _, retOut X C.hx (C.hret.trans ht) hn hi (hb C.hby hd) hr, hrun, hended, _, L, rfl, ⟨?_, N⟩, hE.1, hE.2.1, hE.2.2.1, hE.2.2.2.mono hk hs⟩
    show Q (some w) T.heap
    rw [eT]; exact hq
theorem Wk.retN0 (C : Cx Z p s m meth c y bytes maxL ret) {pc : Nat} {Ls : Array Slot} (ht : ret = none) (hd : decode bytes pc = .ok (.return_, 1)) (hk : k ≤ R.cells) (hs : n ≤ R.slots) (hq : Q none h) : Wk W p l e R s m args below meth c n0 Q h k n (mkF m pc Ls []) := by
  intro T L vm0 X B eT N
  have hlk := C.hlk
  have hv : meth.sig.returnType = none → (none : Option Value) = none := fun _ => rfl
  cases W
  · cases (B : vm0 = s.vm)
    obtain ⟨fs, hr, hrun, hended, hW, hsame⟩ := Stand.leave (s := s) X (v := none) hv hlk
    refine ⟨_, _, X.returnOut C.hx (C.hret.trans ht) (hb C.hby hd) hr, hrun, hended, _, L, rfl, ⟨?_, N⟩, ⟨_, rfl⟩, hW, hsame.mono hk hs⟩
    show Q none T.heap
    rw [eT]; exact hq
  · obtain ⟨k0, hS, hk0⟩ := (B : ∃ k0, s.Since vm0 k0 ∧ k0 ≤ h.size)
    obtain ⟨fs, hr, hrun, hended, hE⟩ := X.leaveW hS (by rw [eT]; exact hk0) (v := none) hv hlk
    refine ⟨_, _, X.returnOut C.hx (C.hret.trans ht) (hb C.hby hd) hr, hrun, hended, _, L, rfl, ⟨?_, N⟩, hE.1, hE.2.1, hE.2.2.1, hE.2.2.2.mono hk hs⟩
    show Q none T.heap
    rw [eT]; exact hq
/-- the three calls, by the callee's contract -/
theorem Wk.callS (C : Cx Z p s m meth c y bytes maxL ret) {z : MethodName} {index : Nat} {bz : ByteArray} {mz : Nat} {rz : Option FieldType} {rm : Room} {asL : List Value} {Qz : Option Value → Heap → Prop}
    (w1 : (Cond.methodLink y.cls index z).before a0 Z = true) (w2 : (Cond.static z).before a0 Z = true) (w3 : (Cond.initialized z.cls).before a0 Z = true) (w4 : (Cond.code z bz mz rz).before a0 Z = true)
    (hz : z.cls ≠ "java/lang/invoke/MethodHandle" ∧ z.cls ≠ "java/lang/invoke/VarHandle") (M : Met W l Z n0 z bz mz rz rm asL.toArray h Qz) {w : Nat} (hf : rm.frames + 1 ≤ R.frames) (hl : w + (mz + 11) + rm.locals ≤ R.locals)
    {ps : List FieldType} {r : Option FieldType} (hlen : parseMethodDescriptor z.desc = some ⟨ps, r⟩) (hps : asL.length = ps.length) {pc : Nat} {Ls : Array Slot} {st rest : List Value} (hls : Ls.size = maxL) (hst : st = asL.reverse ++ rest) (hw : (rest.map fun v => v.category).sum ≤ w)
    (hc : k + rm.cells ≤ R.cells) (hs : n + rm.slots ≤ R.slots) (hd : decode bytes pc = .ok (.invokestatic index, 3))
    (H : ∀ v h', Qz v h' → Wk W p l e R s m args below meth c n0 Q h' (k + rm.cells) (n + rm.slots) (mkF m (pc + 3) Ls (v.toList ++ rest))) : Wk W p l e R s m args below meth c n0 Q h k n (mkF m pc Ls st) := by
  intro T L vm0 X B eT N
  subst hst
  have hZ := C.wZ B
  have ho := C.wo B
  have hw' : 2 * (mkF m pc Ls (asL.reverse ++ rest)).monitorRoom + (rest.map fun v => v.category).sum ≤ w := by show 2 * 0 + _ ≤ _; omega
  cases W
  · obtain ⟨v, vm₁, ⟨T', L', k', n'⟩, -, X', ⟨Lc, hQ, l1, y1, z1⟩, st⟩ := Jvm.LawKit.callS X C.hx ho (mvT hZ w1) (mvT hZ w2) (mvT hZ w3) (mvT hZ w4) hz (backOf (W := w) (Q := fun v h L => Qz v h ∧ Fr n0 L) (M []) hZ w4 w3 hf hl) (g := mkF m pc Ls (asL.reverse ++ rest)) rfl (hls.trans C.hml.symm) (argsL := asL) (rest := rest) (lenOf hlen hps) rfl hw' (hb C.hby hd) (fun _ _ => ⟨rfl, eT, hc, hs⟩)
    dsimp only [Pt.U, Pt.locs, Pt.cells, Pt.slots] at X' l1 y1 z1 st hQ
    subst l1 y1 z1
    obtain ⟨s₂, o, h1, h2⟩ := H v T'.heap hQ.1 T' _ vm0 X' (B : vm0 = s.vm) rfl (N.app hQ.2)
    exact ⟨s₂, o, st _ h1, h2⟩
  · obtain ⟨v, vm₁, ⟨T', L', k', n'⟩, -, X', hS', hgr, ⟨Lc, hQ, l1, y1, z1⟩, st⟩ := callSS X C.hx ho (mvT hZ w1) (mvT hZ w2) (mvT hZ w3) (mvT hZ w4) hz (backOfS (W := w) (Q := fun v h L => Qz v h ∧ Fr n0 L) (M []) hZ w4 w3 hf hl) (g := mkF m pc Ls (asL.reverse ++ rest)) rfl (hls.trans C.hml.symm) (argsL := asL) (rest := rest) (lenOf hlen hps) rfl hw' (hb C.hby hd) (fun _ _ => ⟨rfl, eT, hc, hs⟩)
    dsimp only [Pt.U, Pt.locs, Pt.cells, Pt.slots] at X' hS' hgr l1 y1 z1 st hQ
    subst l1 y1 z1
    obtain ⟨k0, hS, hk0⟩ := (B : ∃ k0, s.Since vm0 k0 ∧ k0 ≤ h.size)
    obtain ⟨s₂, o, h1, h2⟩ := H v T'.heap hQ.1 T' _ T'.vm X' ⟨_, foldS hS (by rw [eT]; exact hk0) hS' hgr, Nat.le_refl _⟩ rfl (N.app hQ.2)
    exact ⟨s₂, o, st.trans h1, h2⟩
theorem Wk.callI (C : Cx Z p s m meth c y bytes maxL ret) {z : MethodName} {index : Nat} {bz : ByteArray} {mz : Nat} {rm : Room} {a : Addr} {asL : List Value} {Qz : Option Value → Heap → Prop} (hz1 : z.name = "<init>")
    (w1 : (Cond.methodLink y.cls index z).before a0 Z = true) (w2 : (Cond.instanceMethod z).before a0 Z = true) (w3 : (Cond.initialized z.cls).before a0 Z = true) (w4 : (Cond.code z bz mz none).before a0 Z = true)
    (hz : z.cls ≠ "java/lang/invoke/MethodHandle" ∧ z.cls ≠ "java/lang/invoke/VarHandle") (M : Met W l Z n0 z bz mz none rm (.ref a :: asL).toArray h Qz) {w : Nat} (hf : rm.frames + 1 ≤ R.frames) (hl : w + (mz + 11) + rm.locals ≤ R.locals)
    {ps : List FieldType} {r : Option FieldType} (hlen : parseMethodDescriptor z.desc = some ⟨ps, r⟩) (hps : asL.length = ps.length) {pc : Nat} {Ls : Array Slot} {st rest : List Value} (hls : Ls.size = maxL) (hst : st = asL.reverse ++ .ref a :: rest) (hw : (rest.map fun v => v.category).sum ≤ w)
    (hc : k + rm.cells ≤ R.cells) (hs : n + rm.slots ≤ R.slots) (hd : decode bytes pc = .ok (.invokespecial index, 3))
    (H : ∀ v h', Qz v h' → Wk W p l e R s m args below meth c n0 Q h' (k + rm.cells) (n + rm.slots) (mkF m (pc + 3) Ls (v.toList ++ rest))) : Wk W p l e R s m args below meth c n0 Q h k n (mkF m pc Ls st) := by
  intro T L vm0 X B eT N
  subst hst
  have hZ := C.wZ B
  have ho := C.wo B
  have hw' : 2 * (mkF m pc Ls (asL.reverse ++ .ref a :: rest)).monitorRoom + (rest.map fun v => v.category).sum ≤ w := by show 2 * 0 + _ ≤ _; omega
  cases W
  · obtain ⟨v, vm₁, ⟨T', L', k', n'⟩, -, X', ⟨Lc, hQ, l1, y1, z1⟩, st⟩ := X.specialBack C.hx hz1 ho (mvT hZ w1) (mvT hZ w2) (mvT hZ w4) hz (backOf (W := w) (Q := fun v h L => Qz v h ∧ Fr n0 L) (M []) hZ w4 w3 hf hl) (g := mkF m pc Ls (asL.reverse ++ .ref a :: rest)) rfl (hls.trans C.hml.symm) (Steps.refl _) (a := a) (argsL := asL) (rest := rest) (lenOf hlen hps) rfl hw' (hb C.hby hd) (fun _ _ => ⟨rfl, eT, hc, hs⟩)
    dsimp only [Pt.U, Pt.locs, Pt.cells, Pt.slots] at X' l1 y1 z1 st hQ
    subst l1 y1 z1
    obtain ⟨s₂, o, h1, h2⟩ := H v T'.heap hQ.1 T' _ vm0 X' (B : vm0 = s.vm) rfl (N.app hQ.2)
    exact ⟨s₂, o, st.trans h1, h2⟩
  · obtain ⟨v, vm₁, ⟨T', L', k', n'⟩, -, X', hS', hgr, ⟨Lc, hQ, l1, y1, z1⟩, st⟩ := X.specialBackS C.hx hz1 ho (mvT hZ w1) (mvT hZ w2) (mvT hZ w4) hz (backOfS (W := w) (Q := fun v h L => Qz v h ∧ Fr n0 L) (M []) hZ w4 w3 hf hl) (g := mkF m pc Ls (asL.reverse ++ .ref a :: rest)) rfl (hls.trans C.hml.symm) (Steps.refl _) (a := a) (argsL := asL) (rest := rest) (lenOf hlen hps) rfl hw' (hb C.hby hd) (fun _ _ => ⟨rfl, eT, hc, hs⟩)
    dsimp only [Pt.U, Pt.locs, Pt.cells, Pt.slots] at X' hS' hgr l1 y1 z1 st hQ
    subst l1 y1 z1
    obtain ⟨k0, hS, hk0⟩ := (B : ∃ k0, s.Since vm0 k0 ∧ k0 ≤ h.size)
    obtain ⟨s₂, o, h1, h2⟩ := H v T'.heap hQ.1 T' _ T'.vm X' ⟨_, foldS hS (by rw [eT]; exact hk0) hS' hgr, Nat.le_refl _⟩ rfl (N.app hQ.2)
    exact ⟨s₂, o, st.trans h1, h2⟩
theorem Wk.callV (C : Cx Z p s m meth c y bytes maxL ret) {x z : MethodName} {K : String} {index : Nat} {bz : ByteArray} {mz : Nat} {rz : Option FieldType} {rm : Room} {a : Addr} {asL : List Value} {Qz : Option Value → Heap → Prop}
    (w1 : (Cond.methodLink y.cls index x).before a0 Z = true) (w2 : (Cond.declares x).before a0 Z = true) (w5 : (Cond.selects K x z).before a0 Z = true) (w6 : (Cond.instanceMethod z).before a0 Z = true) (w3 : (Cond.initialized z.cls).before a0 Z = true) (w4 : (Cond.code z bz mz rz).before a0 Z = true)
    (hz : x.cls ≠ "java/lang/invoke/MethodHandle" ∧ x.cls ≠ "java/lang/invoke/VarHandle") (hnf : ∀ s' : State, Z.Warmed39 s'.vm → NotFace s' x) (E : Exa Z h a K) (M : Met W l Z n0 z bz mz rz rm (.ref a :: asL).toArray h Qz) {w : Nat} (hf : rm.frames + 1 ≤ R.frames) (hl : w + (mz + 11) + rm.locals ≤ R.locals)
    {ps : List FieldType} {r : Option FieldType} (hlen : parseMethodDescriptor x.desc = some ⟨ps, r⟩) (hps : asL.length = ps.length) {pc : Nat} {Ls : Array Slot} {st rest : List Value} (hls : Ls.size = maxL) (hst : st = asL.reverse ++ .ref a :: rest) (hw : (rest.map fun v => v.category).sum ≤ w)
    (hc : k + rm.cells ≤ R.cells) (hs : n + rm.slots ≤ R.slots) (hd : decode bytes pc = .ok (.invokevirtual index, 3))
    (H : ∀ v h', Qz v h' → Wk W p l e R s m args below meth c n0 Q h' (k + rm.cells) (n + rm.slots) (mkF m (pc + 3) Ls (v.toList ++ rest))) : Wk W p l e R s m args below meth c n0 Q h k n (mkF m pc Ls st) := by
  intro T L vm0 X B eT N
  subst hst
  have hZ := C.wZ B
  have ho := C.wo B
  have hw' : 2 * (mkF m pc Ls (asL.reverse ++ .ref a :: rest)).monitorRoom + (rest.map fun v => v.category).sum ≤ w := by show 2 * 0 + _ ≤ _; omega
  obtain ⟨cq, kq, qa, qb, qc⟩ := isOf hZ eT E
  cases W
  · obtain ⟨v, vm₁, ⟨T', L', k', n'⟩, -, X', ⟨Lc, hQ, l1, y1, z1⟩, st⟩ := X.virtualBack C.hx (y := x) (z := z) ho (mvT hZ w1) (mvT hZ w2) (hnf _ hZ) (mvT hZ w5) (mvT hZ w6) hz (backOf (W := w) (Q := fun v h L => Qz v h ∧ Fr n0 L) (M []) hZ w4 w3 hf hl) qa qc (g := mkF m pc Ls (asL.reverse ++ .ref a :: rest)) rfl (hls.trans C.hml.symm) (Steps.refl _) (argsL := asL) (rest := rest) (lenOf hlen hps) rfl hw' (hb C.hby hd) (fun _ _ => ⟨rfl, eT, hc, hs⟩)
    dsimp only [Pt.U, Pt.locs, Pt.cells, Pt.slots] at X' l1 y1 z1 st hQ
    subst l1 y1 z1
    obtain ⟨s₂, o, h1, h2⟩ := H v T'.heap hQ.1 T' _ vm0 X' (B : vm0 = s.vm) rfl (N.app hQ.2)
    exact ⟨s₂, o, st.trans h1, h2⟩
  · obtain ⟨v, vm₁, ⟨T', L', k', n'⟩, -, X', hS', hgr, ⟨Lc, hQ, l1, y1, z1⟩, st⟩ := X.virtualBackS C.hx (y := x) (z := z) ho (mvT hZ w1) (mvT hZ w2) (hnf _ hZ) (mvT hZ w5) (mvT hZ w6) hz (backOfS (W := w) (Q := fun v h L => Qz v h ∧ Fr n0 L) (M []) hZ w4 w3 hf hl) qa qc (g := mkF m pc Ls (asL.reverse ++ .ref a :: rest)) rfl (hls.trans C.hml.symm) (Steps.refl _) (argsL := asL) (rest := rest) (lenOf hlen hps) rfl hw' (hb C.hby hd) (fun _ _ => ⟨rfl, eT, hc, hs⟩)
    dsimp only [Pt.U, Pt.locs, Pt.cells, Pt.slots] at X' hS' hgr l1 y1 z1 st hQ
    subst l1 y1 z1
    obtain ⟨k0, hS, hk0⟩ := (B : ∃ k0, s.Since vm0 k0 ∧ k0 ≤ h.size)
    obtain ⟨s₂, o, h1, h2⟩ := H v T'.heap hQ.1 T' _ T'.vm X' ⟨_, foldS hS (by rw [eT]; exact hk0) hS' hgr, Nat.le_refl _⟩ rfl (N.app hQ.2)
    exact ⟨s₂, o, st.trans h1, h2⟩
theorem Wk.callU (C : Cx Z p s m meth c y bytes maxL ret) {x z : MethodName} {K owner : String} {index : Nat} {bz : ByteArray} {mz : Nat} {rz : Option FieldType} {rm : Room} {a : Addr} {asL : List Value} {Qz : Option Value → Heap → Prop}
    (w1 : (Cond.methodLink y.cls index x).before a0 Z = true) (w7 : (Cond.sameMethod x.cls owner x.name x.desc).before a0 Z = true) (w2 : (Cond.declares ⟨owner, x.name, x.desc⟩).before a0 Z = true) (w5 : (Cond.selects K x z).before a0 Z = true) (w6 : (Cond.instanceMethod z).before a0 Z = true) (w3 : (Cond.initialized z.cls).before a0 Z = true) (w4 : (Cond.code z bz mz rz).before a0 Z = true)
    (hz : owner ≠ "java/lang/invoke/MethodHandle" ∧ owner ≠ "java/lang/invoke/VarHandle") (E : Exa Z h a K) (M : Met W l Z n0 z bz mz rz rm (.ref a :: asL).toArray h Qz) {w : Nat} (hf : rm.frames + 1 ≤ R.frames) (hl : w + (mz + 11) + rm.locals ≤ R.locals)
    {ps : List FieldType} {r : Option FieldType} (hlen : parseMethodDescriptor x.desc = some ⟨ps, r⟩) (hps : asL.length = ps.length) {pc : Nat} {Ls : Array Slot} {st rest : List Value} (hls : Ls.size = maxL) (hst : st = asL.reverse ++ .ref a :: rest) (hw : (rest.map fun v => v.category).sum ≤ w)
    (hc : k + rm.cells ≤ R.cells) (hs : n + rm.slots ≤ R.slots) (hd : decode bytes pc = .ok (.invokevirtual index, 3))
    (H : ∀ v h', Qz v h' → Wk W p l e R s m args below meth c n0 Q h' (k + rm.cells) (n + rm.slots) (mkF m (pc + 3) Ls (v.toList ++ rest))) : Wk W p l e R s m args below meth c n0 Q h k n (mkF m pc Ls st) := by
  intro T L vm0 X B eT N
  subst hst
  have hZ := C.wZ B
  have ho := C.wo B
  have hw' : 2 * (mkF m pc Ls (asL.reverse ++ .ref a :: rest)).monitorRoom + (rest.map fun v => v.category).sum ≤ w := by show 2 * 0 + _ ≤ _; omega
  obtain ⟨cq, kq, qa, qb, qc⟩ := isOf hZ eT E
  cases W
  · obtain ⟨v, vm₁, ⟨T', L', k', n'⟩, -, X', ⟨Lc, hQ, l1, y1, z1⟩, st⟩ := X.virtualBackUp C.hx (x := x) (y := z) ho (mvT hZ w1) (mvT hZ w7) (mvT hZ w2) hz (mvT hZ w5) (mvT hZ w6) (backOf (W := w) (Q := fun v h L => Qz v h ∧ Fr n0 L) (M []) hZ w4 w3 hf hl) qa qc (g := mkF m pc Ls (asL.reverse ++ .ref a :: rest)) rfl (hls.trans C.hml.symm) (Steps.refl _) (argsL := asL) (rest := rest) (lenOf hlen hps) rfl hw' (hb C.hby hd) (fun _ _ => ⟨rfl, eT, hc, hs⟩)
    dsimp only [Pt.U, Pt.locs, Pt.cells, Pt.slots] at X' l1 y1 z1 st hQ
    subst l1 y1 z1
    obtain ⟨s₂, o, h1, h2⟩ := H v T'.heap hQ.1 T' _ vm0 X' (B : vm0 = s.vm) rfl (N.app hQ.2)
    exact ⟨s₂, o, st.trans h1, h2⟩
  · obtain ⟨v, vm₁, ⟨T', L', k', n'⟩, -, X', hS', hgr, ⟨Lc, hQ, l1, y1, z1⟩, st⟩ := X.virtualBackUpS C.hx (x := x) (y := z) ho (mvT hZ w1) (mvT hZ w7) (mvT hZ w2) hz (mvT hZ w5) (mvT hZ w6) (backOfS (W := w) (Q := fun v h L => Qz v h ∧ Fr n0 L) (M []) hZ w4 w3 hf hl) qa qc (g := mkF m pc Ls (asL.reverse ++ .ref a :: rest)) rfl (hls.trans C.hml.symm) (Steps.refl _) (argsL := asL) (rest := rest) (lenOf hlen hps) rfl hw' (hb C.hby hd) (fun _ _ => ⟨rfl, eT, hc, hs⟩)
    dsimp only [Pt.U, Pt.locs, Pt.cells, Pt.slots] at X' hS' hgr l1 y1 z1 st hQ
    subst l1 y1 z1
    obtain ⟨k0, hS, hk0⟩ := (B : ∃ k0, s.Since vm0 k0 ∧ k0 ≤ h.size)
    obtain ⟨s₂, o, h1, h2⟩ := H v T'.heap hQ.1 T' _ T'.vm X' ⟨_, foldS hS (by rw [eT]; exact hk0) hS' hgr, Nat.le_refl _⟩ rfl (N.app hQ.2)
    exact ⟨s₂, o, st.trans h1, h2⟩
theorem Wk.ldcS (C : Cx Z p s m meth c y bytes maxL ret) {index : Nat} {text : String} (w : (Cond.stringLink y.cls index text).before a0 Z = true) (wS : ∀ d ∈ Bundle.stringAtoms, d.before a0 Z = true) {N : Nat} (hn : 4 * text.toList.length ≤ N) (hbig : N ≤ 536870912) {pc : Nat} {Ls : Array Slot} {st : List Value} (hd : decode bytes pc = .ok (.ldc index, 2)) (hc : k + 2 ≤ R.cells) (hl : n + (N + 4) ≤ R.slots)
    (H : ∀ h' a, Ext h h' → Wk true p l e R s m args below meth c n0 Q h' (k + 2) (n + (N + 4)) (mkF m (pc + 2) Ls (.ref a :: st))) : Wk true p l e R s m args below meth c n0 Q h k n (mkF m pc Ls st) := by
  intro T L vm0 X B eT N'
  have hZ := C.wZ B
  have ho := C.wo B
  obtain ⟨k0, hS, hk0⟩ := (B : ∃ k0, s.Since vm0 k0 ∧ k0 ≤ h.size)
  obtain ⟨a, T', h', k1, X', e', E, hS', hk1, -, -, st⟩ := Jvm.RoadKit.ldcS X C.hx hZ ho w wS eT hS hk0 (g := mkF m pc Ls st) rfl (hb C.hby hd) hn hbig hc hl
  obtain ⟨s₂, o, h1, h2⟩ := H h' a E T' L T'.vm X' ⟨k1, hS', hk1⟩ e' N'
  exact ⟨s₂, o, st _ h1, h2⟩
end Rules
theorem ext_trans {h h' h'' : Heap} (E : Ext h h') (E' : Ext h' h'') : Ext h h'' := ⟨Nat.le_trans E.1 E'.1, fun a c q => E'.2 a c (E.2 a c q)⟩
theorem ext_refl (h : Heap) : Ext h h := ⟨Nat.le_refl _, fun _ _ q => q⟩
end Jvm.Own
namespace Jvm.Own
open Jvm Jvm.ClassFile Sem Op Lib Jvm.Free Jvm.Stand Jvm.LawKit Jvm.RoadKit
/-! statics that hold objects, told apart by a field -/
theorem stat_exa {args : Array Value} {s : State} {C n d K : String} (wi : (Cond.initialized C).before args s = true) (wl : (Cond.laysStatic C n d).before args s = true) (hx : (Cond.exactly (Term.static C n d) K).value args s none s [] = some true) :
    ∃ a, (Term.static C n d).eval args s none [] s = some (.ref a) ∧ Sta s s.heap C n d (.ref a) ∧ Exa s s.heap a K := by
  obtain ⟨a, ev⟩ := exa_v hx
  exact ⟨a, ev, Sta.start ev (Or.inr ⟨wi, wl⟩), Exa.start ev hx⟩
theorem fld_int {args : Array Value} {s : State} {t : Term} {a : Addr} {O f d : String} {i : Int32} (ev : t.eval args s none [] s = some (.ref a)) (hq : (Cond.eq (Term.field t O f d) (Term.int i)).value args s none s [] = some true) : Fld s s.heap a O f d (.int i) := by
  refine Fld.start ?_
  obtain ⟨x, y, h1, h2, k1, k2⟩ := cmp_v (Or.inl hq)
  cases (show some (Value.int i) = some y from h2)
  obtain ⟨z, rfl⟩ := k2
  have q := gotT (show (Cond.eq (Term.field t O f d) (Term.int i)).value args s none s [] = some (decide (z = i)) by simp [Cond.value, h1, h2]) hq
  subst q
  rw [fld_at ev] at h1; exact h1
theorem fld_uniq {Z : State} {h : Heap} {a : Addr} {O f d : String} {v w : Value} (F : Fld Z h a O f d v) (G : Fld Z h a O f d w) : v = w := by
  obtain ⟨c1, cf, k, i, fd, h1, h2, -, -, -, -, h7⟩ := F
  obtain ⟨c2, cf', k', i', fd', g1, g2, -, -, -, -, g7⟩ := G
  cases h1.symm.trans g1
  cases h2.symm.trans g2
  exact Option.some.inj (h7.symm.trans g7)
theorem ne_fld {Z : State} {h : Heap} {a b : Addr} {O f d : String} {v w : Value} (F : Fld Z h a O f d v) (G : Fld Z h b O f d w) (q : v ≠ w) : a ≠ b := fun e => by
  subst e; exact q (fld_uniq F G)
theorem mod_range (p k : Int32) (d : Int) (hd : k.toInt = d) (h0 : 0 < d) : 0 ≤ ((p &&& 2147483647) % k).toInt ∧ ((p &&& 2147483647) % k).toInt < d := by
  have h1 := (c_andS p 2147483647).2.2 (by decide)
  have h2 := (c_irem (p &&& 2147483647) k d hd).1 h1
  rw [h2]
  exact ⟨Int.emod_nonneg _ (by omega), Int.emod_lt_of_pos _ h0⟩
theorem mod6 (p : Int32) : (p &&& 2147483647) % 6 = 0 ∨ (p &&& 2147483647) % 6 = 1 ∨ (p &&& 2147483647) % 6 = 2 ∨ (p &&& 2147483647) % 6 = 3 ∨ (p &&& 2147483647) % 6 = 4 ∨ (p &&& 2147483647) % 6 = 5 := by
  have h := mod_range p 6 6 (by decide) (by decide)
  generalize (p &&& 2147483647) % 6 = r at h ⊢
  have q : r.toInt = 0 ∨ r.toInt = 1 ∨ r.toInt = 2 ∨ r.toInt = 3 ∨ r.toInt = 4 ∨ r.toInt = 5 := by omega
  rcases q with q | q | q | q | q | q
  · exact Or.inl (Int32.toInt_inj.mp q)
  · exact Or.inr (Or.inl (Int32.toInt_inj.mp q))
  · exact Or.inr (Or.inr (Or.inl (Int32.toInt_inj.mp q)))
  · exact Or.inr (Or.inr (Or.inr (Or.inl (Int32.toInt_inj.mp q))))
  · exact Or.inr (Or.inr (Or.inr (Or.inr (Or.inl (Int32.toInt_inj.mp q)))))
  · exact Or.inr (Or.inr (Or.inr (Or.inr (Or.inr (Int32.toInt_inj.mp q)))))
theorem mod3 (p : Int32) : (p &&& 2147483647) % 3 = 0 ∨ (p &&& 2147483647) % 3 = 1 ∨ (p &&& 2147483647) % 3 = 2 := by
  have h := mod_range p 3 3 (by decide) (by decide)
  generalize (p &&& 2147483647) % 3 = r at h ⊢
  have q : r.toInt = 0 ∨ r.toInt = 1 ∨ r.toInt = 2 := by omega
  rcases q with q | q | q
  · exact Or.inl (Int32.toInt_inj.mp q)
  · exact Or.inr (Or.inl (Int32.toInt_inj.mp q))
  · exact Or.inr (Or.inr (Int32.toInt_inj.mp q))
end Jvm.Own
namespace Jvm.Own
open Jvm Jvm.ClassFile Sem Op Lib Jvm.Free Jvm.Stand Jvm.LawKit Jvm.RoadKit
/-! an array by what it holds at each place -/
def up {α : Type} (f : Nat → α) (i : Nat) (v : α) : Nat → α := fun k => if k = i then v else f k
theorem up_eq {α : Type} {f : Nat → α} {i k : Nat} {v : α} (q : k = i) : up f i v k = v := by simp [up, q]
theorem up_ne {α : Type} {f : Nat → α} {i k : Nat} {v : α} (q : k ≠ i) : up f i v k = f k := by simp [up, q]
def Fa (Z : State) (h : Heap) (a : Addr) (ty : FieldType) (n : Nat) (f : Nat → Value) : Prop :=
  ∃ c : Cell, Arr Z h a c ty ∧ c.slots.size = n ∧ n < 2 ^ 31 ∧ ∀ i, i < n → c.slots[i]? = some (f i)
/-- .. of objects of the class K -/
def FaO (Z : State) (h : Heap) (a : Addr) (K : String) (n : Nat) (f : Nat → Value) : Prop :=
  ∃ c : Cell, Arr Z h a c (.object K) ∧ Ovr Z c.cls K ∧ c.slots.size = n ∧ n < 2 ^ 31 ∧ ∀ i, i < n → c.slots[i]? = some (f i)
/-- .. of arrays, whose class is named K -/
def FaA (Z : State) (h : Heap) (a : Addr) (ty : FieldType) (K : String) (n : Nat) (f : Nat → Value) : Prop :=
  ∃ c : Cell, Arr Z h a c (.array ty) ∧ OvrA Z c.cls ty K ∧ c.slots.size = n ∧ n < 2 ^ 31 ∧ ∀ i, i < n → c.slots[i]? = some (f i)
section Facts
variable {Z : State} {h h' : Heap} {a b : Addr} {ty : FieldType} {K : String} {n : Nat} {f g : Nat → Value} {sl : Nat} {v : Value} {ws : List Addr}
theorem inb {c : Cell} {j : Int32} (S : c.slots.size = n) (h0 : ¬ j < 0) (hi : j.toNatClampNeg < n) : ¬ (j < 0 ∨ c.slots.size ≤ j.toNatClampNeg) := by
  rintro (q | q)
  · exact h0 q
  · omega
theorem set_at {c : Cell} (S : c.slots.size = n) (H : ∀ i, i < n → c.slots[i]? = some (f i)) (hs : sl < n) : ∀ i, i < n → (c.setSlot sl v).slots[i]? = some (up f sl v i) := fun i hi => by
  by_cases q : i = sl
  · subst q; rw [up_eq rfl]; simp [Cell.setSlot, S, hi]
  · rw [up_ne q, ← H i hi]; exact Array.getElem?_setIfInBounds_ne (Ne.symm q)
theorem new_at {cA : ClassId} {z : Int32} : ∀ i, i < z.toNatClampNeg → (newA cA ty z).slots[i]? = some (defaultValue ty) := fun i hi => by simp [newA, hi]
theorem clamp_lt (z : Int32) : z.toNatClampNeg < 2 ^ 31 := by
  have := Int32.toInt_lt z; simp only [Int32.toNatClampNeg]; omega
theorem Fa.lt (F : Fa Z h a ty n f) : a < h.size := by obtain ⟨c, A, -⟩ := F; exact A.lt
theorem Fa.ext (F : Fa Z h a ty n f) (E : Ext h h') : Fa Z h' a ty n f := by obtain ⟨c, A, r⟩ := F; exact ⟨c, A.ext E, r⟩
theorem Fa.other (F : Fa Z h b ty n f) (W : Wr h h' a sl v) (q : b ≠ a) : Fa Z h' b ty n f := by obtain ⟨c, A, r⟩ := F; exact ⟨c, A.other W q, r⟩
theorem Fa.keep (F : Fa Z h a ty n f) (K : Keep h h' ws) (q : a ∉ ws) : Fa Z h' a ty n f := by obtain ⟨c, A, r⟩ := F; exact ⟨c, ⟨K.2.1 a c A.1 q, A.2⟩, r⟩
theorem Fa.set (F : Fa Z h a ty n f) (W : Wr h h' a sl v) (hs : sl < n) : Fa Z h' a ty n (up f sl v) := by
  obtain ⟨c, A, S, N, H⟩ := F; exact ⟨_, A.same W, (sz_set _ _ _).trans S, N, set_at S H hs⟩
theorem Fa.new {cA : ClassId} {z : Int32} (A : Arr Z h a (newA cA ty z) ty) : Fa Z h a ty z.toNatClampNeg (fun _ => defaultValue ty) := ⟨_, A, sz_new _ _ _, clamp_lt z, new_at⟩
theorem Fa.congr (F : Fa Z h a ty n f) (q : ∀ i, i < n → f i = g i) : Fa Z h a ty n g := by obtain ⟨c, A, S, N, H⟩ := F; exact ⟨c, A, S, N, fun i hi => (H i hi).trans (congrArg some (q i hi))⟩
theorem FaO.lt (F : FaO Z h a K n f) : a < h.size := by obtain ⟨c, A, -⟩ := F; exact A.lt
theorem FaO.ext (F : FaO Z h a K n f) (E : Ext h h') : FaO Z h' a K n f := by obtain ⟨c, A, r⟩ := F; exact ⟨c, A.ext E, r⟩
theorem FaO.other (F : FaO Z h b K n f) (W : Wr h h' a sl v) (q : b ≠ a) : FaO Z h' b K n f := by obtain ⟨c, A, r⟩ := F; exact ⟨c, A.other W q, r⟩
theorem FaO.set (F : FaO Z h a K n f) (W : Wr h h' a sl v) (hs : sl < n) : FaO Z h' a K n (up f sl v) := by
  obtain ⟨c, A, O, S, N, H⟩ := F; exact ⟨_, A.same W, O, (sz_set _ _ _).trans S, N, set_at S H hs⟩
theorem FaO.new {cA : ClassId} {z : Int32} (A : Arr Z h a (newA cA (.object K) z) (.object K)) (O : Ovr Z cA K) : FaO Z h a K z.toNatClampNeg (fun _ => .null) := ⟨_, A, O, sz_new _ _ _, clamp_lt z, new_at⟩
theorem FaO.sto (F : FaO Z h a K n f) {y : Addr} (E : Exa Z h y K) : Sto Z h a (.ref y) := by obtain ⟨c, A, O, -⟩ := F; exact Sto.of A O (Ins.self E)
theorem FaA.lt (F : FaA Z h a ty K n f) : a < h.size := by obtain ⟨c, A, -⟩ := F; exact A.lt
theorem FaA.ext (F : FaA Z h a ty K n f) (E : Ext h h') : FaA Z h' a ty K n f := by obtain ⟨c, A, r⟩ := F; exact ⟨c, A.ext E, r⟩
theorem FaA.other (F : FaA Z h b ty K n f) (W : Wr h h' a sl v) (q : b ≠ a) : FaA Z h' b ty K n f := by obtain ⟨c, A, r⟩ := F; exact ⟨c, A.other W q, r⟩
theorem FaA.keep (F : FaA Z h a ty K n f) (Kp : Keep h h' ws) (q : a ∉ ws) : FaA Z h' a ty K n f := by obtain ⟨c, A, r⟩ := F; exact ⟨c, ⟨Kp.2.1 a c A.1 q, A.2⟩, r⟩
theorem FaA.set (F : FaA Z h a ty K n f) (W : Wr h h' a sl v) (hs : sl < n) : FaA Z h' a ty K n (up f sl v) := by
  obtain ⟨c, A, O, S, N, H⟩ := F; exact ⟨_, A.same W, O, (sz_set _ _ _).trans S, N, set_at S H hs⟩
theorem FaA.new {cA : ClassId} {z : Int32} (A : Arr Z h a (newA cA (.array ty) z) (.array ty)) (O : OvrA Z cA ty K) : FaA Z h a ty K z.toNatClampNeg (fun _ => .null) := ⟨_, A, O, sz_new _ _ _, clamp_lt z, new_at⟩
end Facts
section Rules
variable {W : Bool} {Z : State} {p : Program} {l : Launch} {e : Env} {R : Room} {s : State} {m : MethodId} {args : Array Value} {below : List Frame} {meth : Method} {c : Code} {y : MethodName} {bytes : ByteArray} {maxL : Nat} {ret : Option FieldType} {n0 : Nat} {Q : Option Value → Heap → Prop} {h : Heap} {k n : Nat} {a0 : Array Value}
variable {a : Addr} {ty : FieldType} {K : String} {N : Nat} {f : Nat → Value} {j : Int32} {v : Value} {pc : Nat} {Ls : Array Slot} {st : List Value}
theorem Wk.fLen (C : Cx Z p s m meth c y bytes maxL ret) (F : Fa Z h a ty N f) {z : Int32} (hz : N.toInt32 = z) (hd : decode bytes pc = .ok (.arraylength, 1))
    (H : Wk W p l e R s m args below meth c n0 Q h k n (mkF m (pc + 1) Ls (.int z :: st))) : Wk W p l e R s m args below meth c n0 Q h k n (mkF m pc Ls (.ref a :: st)) := by
  obtain ⟨cl, A, S, -⟩ := F; exact Wk.len C A hd (by rw [S, hz]; exact H)
theorem Wk.fLenA (C : Cx Z p s m meth c y bytes maxL ret) (F : FaA Z h a ty K N f) {z : Int32} (hz : N.toInt32 = z) (hd : decode bytes pc = .ok (.arraylength, 1))
    (H : Wk W p l e R s m args below meth c n0 Q h k n (mkF m (pc + 1) Ls (.int z :: st))) : Wk W p l e R s m args below meth c n0 Q h k n (mkF m pc Ls (.ref a :: st)) := by
  obtain ⟨cl, A, -, S, -⟩ := F; exact Wk.len C A hd (by rw [S, hz]; exact H)
theorem Wk.fLdI (C : Cx Z p s m meth c y bytes maxL ret) (F : Fa Z h a .int N f) {i : Nat} (hj : j.toNatClampNeg = i) (h0 : ¬ j < 0) (hi : i < N) (hv : f i = v) (hd : decode bytes pc = .ok (.iaload, 1))
    (H : Wk W p l e R s m args below meth c n0 Q h k n (mkF m (pc + 1) Ls (v :: st))) : Wk W p l e R s m args below meth c n0 Q h k n (mkF m pc Ls (.int j :: .ref a :: st)) := by
  subst hj
  obtain ⟨cl, A, S, -, Hs⟩ := F; exact Wk.ldI C A (inb S h0 hi) (hv ▸ Hs _ hi) hd H
theorem Wk.fLdJ (C : Cx Z p s m meth c y bytes maxL ret) (F : Fa Z h a .long N f) {i : Nat} (hj : j.toNatClampNeg = i) (h0 : ¬ j < 0) (hi : i < N) (hv : f i = v) (hd : decode bytes pc = .ok (.laload, 1))
    (H : Wk W p l e R s m args below meth c n0 Q h k n (mkF m (pc + 1) Ls (v :: st))) : Wk W p l e R s m args below meth c n0 Q h k n (mkF m pc Ls (.int j :: .ref a :: st)) := by
  subst hj
  obtain ⟨cl, A, S, -, Hs⟩ := F; exact Wk.ldJ C A (inb S h0 hi) (hv ▸ Hs _ hi) hd H
theorem Wk.fLdD (C : Cx Z p s m meth c y bytes maxL ret) (F : Fa Z h a .double N f) {i : Nat} (hj : j.toNatClampNeg = i) (h0 : ¬ j < 0) (hi : i < N) (hv : f i = v) (hd : decode bytes pc = .ok (.daload, 1))
    (H : Wk W p l e R s m args below meth c n0 Q h k n (mkF m (pc + 1) Ls (v :: st))) : Wk W p l e R s m args below meth c n0 Q h k n (mkF m pc Ls (.int j :: .ref a :: st)) := by
  subst hj
  obtain ⟨cl, A, S, -, Hs⟩ := F; exact Wk.ldD C A (inb S h0 hi) (hv ▸ Hs _ hi) hd H
theorem Wk.fLdZ (C : Cx Z p s m meth c y bytes maxL ret) (F : Fa Z h a .boolean N f) {i : Nat} (hj : j.toNatClampNeg = i) (h0 : ¬ j < 0) (hi : i < N) (hv : f i = v) (hd : decode bytes pc = .ok (.baload, 1))
    (H : Wk W p l e R s m args below meth c n0 Q h k n (mkF m (pc + 1) Ls (v :: st))) : Wk W p l e R s m args below meth c n0 Q h k n (mkF m pc Ls (.int j :: .ref a :: st)) := by
  subst hj
  obtain ⟨cl, A, S, -, Hs⟩ := F; exact Wk.ldZ C A (inb S h0 hi) (hv ▸ Hs _ hi) hd H
theorem Wk.fLdC (C : Cx Z p s m meth c y bytes maxL ret) (F : Fa Z h a .char N f) {i : Nat} (hj : j.toNatClampNeg = i) (h0 : ¬ j < 0) (hi : i < N) (hv : f i = v) (hd : decode bytes pc = .ok (.caload, 1))
    (H : Wk W p l e R s m args below meth c n0 Q h k n (mkF m (pc + 1) Ls (v :: st))) : Wk W p l e R s m args below meth c n0 Q h k n (mkF m pc Ls (.int j :: .ref a :: st)) := by
  subst hj
  obtain ⟨cl, A, S, -, Hs⟩ := F; exact Wk.ldC C A (inb S h0 hi) (hv ▸ Hs _ hi) hd H
theorem Wk.fLdB (C : Cx Z p s m meth c y bytes maxL ret) (F : Fa Z h a .byte N f) {i : Nat} (hj : j.toNatClampNeg = i) (h0 : ¬ j < 0) (hi : i < N) (hv : f i = v) (hd : decode bytes pc = .ok (.baload, 1))
    (H : Wk W p l e R s m args below meth c n0 Q h k n (mkF m (pc + 1) Ls (v :: st))) : Wk W p l e R s m args below meth c n0 Q h k n (mkF m pc Ls (.int j :: .ref a :: st)) := by
  subst hj
  obtain ⟨cl, A, S, -, Hs⟩ := F; exact Wk.ldB C A (inb S h0 hi) (hv ▸ Hs _ hi) hd H
theorem Wk.fLdO (C : Cx Z p s m meth c y bytes maxL ret) (F : FaO Z h a K N f) {i : Nat} (hj : j.toNatClampNeg = i) (h0 : ¬ j < 0) (hi : i < N) (hv : f i = v) (hd : decode bytes pc = .ok (.aaload, 1))
    (H : Wk W p l e R s m args below meth c n0 Q h k n (mkF m (pc + 1) Ls (v :: st))) : Wk W p l e R s m args below meth c n0 Q h k n (mkF m pc Ls (.int j :: .ref a :: st)) := by
  subst hj
  obtain ⟨cl, A, -, S, -, Hs⟩ := F; exact Wk.ldR C A rfl (inb S h0 hi) (hv ▸ Hs _ hi) hd H
theorem Wk.fLdA (C : Cx Z p s m meth c y bytes maxL ret) (F : FaA Z h a ty K N f) {i : Nat} (hj : j.toNatClampNeg = i) (h0 : ¬ j < 0) (hi : i < N) (hv : f i = v) (hd : decode bytes pc = .ok (.aaload, 1))
    (H : Wk W p l e R s m args below meth c n0 Q h k n (mkF m (pc + 1) Ls (v :: st))) : Wk W p l e R s m args below meth c n0 Q h k n (mkF m pc Ls (.int j :: .ref a :: st)) := by
  subst hj
  obtain ⟨cl, A, -, S, -, Hs⟩ := F; exact Wk.ldR C A rfl (inb S h0 hi) (hv ▸ Hs _ hi) hd H
theorem Wk.fStI (C : Cx Z p s m meth c y bytes maxL ret) (F : Fa Z h a .int N f) {x : Int32} {i : Nat} (hj : j.toNatClampNeg = i) (h0 : ¬ j < 0) (hi : i < N) (ge : n0 ≤ a) (hd : decode bytes pc = .ok (.iastore, 1))
    (H : ∀ h', Wr h h' a i (.int x) → Fa Z h' a .int N (up f i (.int x)) → Wk W p l e R s m args below meth c n0 Q h' k n (mkF m (pc + 1) Ls st)) : Wk W p l e R s m args below meth c n0 Q h k n (mkF m pc Ls (.int x :: .int j :: .ref a :: st)) := by
  subst hj
  obtain ⟨cl, A, S, r⟩ := id F; exact Wk.stI C A (inb S h0 hi) ge hd fun h' Wh => H h' Wh (F.set Wh hi)
theorem Wk.fStJ (C : Cx Z p s m meth c y bytes maxL ret) (F : Fa Z h a .long N f) {x : Int64} {i : Nat} (hj : j.toNatClampNeg = i) (h0 : ¬ j < 0) (hi : i < N) (ge : n0 ≤ a) (hd : decode bytes pc = .ok (.lastore, 1))
    (H : ∀ h', Wr h h' a i (.long x) → Fa Z h' a .long N (up f i (.long x)) → Wk W p l e R s m args below meth c n0 Q h' k n (mkF m (pc + 1) Ls st)) : Wk W p l e R s m args below meth c n0 Q h k n (mkF m pc Ls (.long x :: .int j :: .ref a :: st)) := by
  subst hj
  obtain ⟨cl, A, S, r⟩ := id F; exact Wk.stJ C A (inb S h0 hi) ge hd fun h' Wh => H h' Wh (F.set Wh hi)
theorem Wk.fStD (C : Cx Z p s m meth c y bytes maxL ret) (F : Fa Z h a .double N f) {x : UInt64} {i : Nat} (hj : j.toNatClampNeg = i) (h0 : ¬ j < 0) (hi : i < N) (ge : n0 ≤ a) (hd : decode bytes pc = .ok (.dastore, 1))
    (H : ∀ h', Wr h h' a i (.double x) → Fa Z h' a .double N (up f i (.double x)) → Wk W p l e R s m args below meth c n0 Q h' k n (mkF m (pc + 1) Ls st)) : Wk W p l e R s m args below meth c n0 Q h k n (mkF m pc Ls (.double x :: .int j :: .ref a :: st)) := by
  subst hj
  obtain ⟨cl, A, S, r⟩ := id F; exact Wk.stD C A (inb S h0 hi) ge hd fun h' Wh => H h' Wh (F.set Wh hi)
theorem Wk.fStZ (C : Cx Z p s m meth c y bytes maxL ret) (F : Fa Z h a .boolean N f) {x x' : Int32} (hx : nar .boolean x = x') {i : Nat} (hj : j.toNatClampNeg = i) (h0 : ¬ j < 0) (hi : i < N) (ge : n0 ≤ a) (hd : decode bytes pc = .ok (.bastore, 1))
    (H : ∀ h', Wr h h' a i (.int x') → Fa Z h' a .boolean N (up f i (.int x')) → Wk W p l e R s m args below meth c n0 Q h' k n (mkF m (pc + 1) Ls st)) : Wk W p l e R s m args below meth c n0 Q h k n (mkF m pc Ls (.int x :: .int j :: .ref a :: st)) := by
  subst hx
  subst hj
  obtain ⟨cl, A, S, r⟩ := id F; exact Wk.stZb C A (inb S h0 hi) ge hd fun h' Wh => H h' Wh (F.set Wh hi)
theorem Wk.fStB (C : Cx Z p s m meth c y bytes maxL ret) (F : Fa Z h a .byte N f) {x x' : Int32} (hx : nar .byte x = x') {i : Nat} (hj : j.toNatClampNeg = i) (h0 : ¬ j < 0) (hi : i < N) (ge : n0 ≤ a) (hd : decode bytes pc = .ok (.bastore, 1))
    (H : ∀ h', Wr h h' a i (.int x') → Fa Z h' a .byte N (up f i (.int x')) → Wk W p l e R s m args below meth c n0 Q h' k n (mkF m (pc + 1) Ls st)) : Wk W p l e R s m args below meth c n0 Q h k n (mkF m pc Ls (.int x :: .int j :: .ref a :: st)) := by
  subst hx
  subst hj
  obtain ⟨cl, A, S, r⟩ := id F; exact Wk.stB C A (inb S h0 hi) ge hd fun h' Wh => H h' Wh (F.set Wh hi)
theorem Wk.fStC (C : Cx Z p s m meth c y bytes maxL ret) (F : Fa Z h a .char N f) {x x' : Int32} (hx : nar .char x = x') {i : Nat} (hj : j.toNatClampNeg = i) (h0 : ¬ j < 0) (hi : i < N) (ge : n0 ≤ a) (hd : decode bytes pc = .ok (.castore, 1))
    (H : ∀ h', Wr h h' a i (.int x') → Fa Z h' a .char N (up f i (.int x')) → Wk W p l e R s m args below meth c n0 Q h' k n (mkF m (pc + 1) Ls st)) : Wk W p l e R s m args below meth c n0 Q h k n (mkF m pc Ls (.int x :: .int j :: .ref a :: st)) := by
  subst hx
  subst hj
  obtain ⟨cl, A, S, r⟩ := id F; exact Wk.stC C A (inb S h0 hi) ge hd fun h' Wh => H h' Wh (F.set Wh hi)
theorem Wk.fStO (C : Cx Z p s m meth c y bytes maxL ret) (F : FaO Z h a K N f) {i : Nat} (hj : j.toNatClampNeg = i) (h0 : ¬ j < 0) (hi : i < N) (So : Sto Z h a v) (ge : n0 ≤ a) (hd : decode bytes pc = .ok (.aastore, 1))
    (H : ∀ h', Wr h h' a i v → FaO Z h' a K N (up f i v) → Wk W p l e R s m args below meth c n0 Q h' k n (mkF m (pc + 1) Ls st)) : Wk W p l e R s m args below meth c n0 Q h k n (mkF m pc Ls (v :: .int j :: .ref a :: st)) := by
  subst hj
  obtain ⟨cl, A, O, S, r⟩ := id F; exact Wk.stR C A (inb S h0 hi) rfl So ge hd fun h' Wh => H h' Wh (F.set Wh hi)
theorem Wk.fStA (C : Cx Z p s m meth c y bytes maxL ret) (F : FaA Z h a ty K N f) {i : Nat} (hj : j.toNatClampNeg = i) (h0 : ¬ j < 0) (hi : i < N) (So : Sto Z h a v) (ge : n0 ≤ a) (hd : decode bytes pc = .ok (.aastore, 1))
    (H : ∀ h', Wr h h' a i v → FaA Z h' a ty K N (up f i v) → Wk W p l e R s m args below meth c n0 Q h' k n (mkF m (pc + 1) Ls st)) : Wk W p l e R s m args below meth c n0 Q h k n (mkF m pc Ls (v :: .int j :: .ref a :: st)) := by
  subst hj
  obtain ⟨cl, A, O, S, r⟩ := id F; exact Wk.stR C A (inb S h0 hi) rfl So ge hd fun h' Wh => H h' Wh (F.set Wh hi)
theorem Wk.fNewP (C : Cx Z p s m meth c y bytes maxL ret) {aty : ArrayType} (w : (Cond.arrayClass (newarray.typeOf aty)).before a0 Z = true) {z : Int32} {dv : Value} {ad : String} (hty : newarray.typeOf aty = ty) (hdv : defaultValue ty = dv) (hN : z.toNatClampNeg = N) (had : "[" ++ (newarray.typeOf aty).toString = ad) (hz : ¬ z < 0) {cap : Nat} (hcap : N ≤ cap) (hbig : cap * 8 ≤ 536870912) (hd : decode bytes pc = .ok (.newarray aty, 2)) (hc : k + 1 ≤ R.cells) (hl : n + cap ≤ R.slots)
    (H : ∀ h' a, a = h.size → Ext h h' → Exa Z h' a ad → Fa Z h' a ty N (fun _ => dv) → Wk W p l e R s m args below meth c n0 Q h' (k + 1) (n + cap) (mkF m (pc + 2) Ls (.ref a :: st))) :
    Wk W p l e R s m args below meth c n0 Q h k n (mkF m pc Ls (.int z :: st)) := by
  intro T L vm0 X B eT Nn
  subst hty hdv hN
  obtain ⟨T', h', cA, X', e', E, A, Ex, st⟩ := Jvm.RoadKit.newPE X C.hx (C.wZ B) w eT (g := mkF m pc Ls (.int z :: st)) rfl (hb C.hby hd) rfl hz hcap hbig hc hl had
  obtain ⟨s₂, o, h1, h2⟩ := H h' _ rfl E Ex (Fa.new A) T' L vm0 X' (B.mono E.1) e' Nn
  exact ⟨s₂, o, st _ h1, h2⟩
theorem Wk.fNewA (C : Cx Z p s m meth c y bytes maxL ret) {index : Nat} {z : Int32} {ad : String} (hK : (FieldType.array ty).toString = K) (w1 : (Cond.classLink y.cls index K).before a0 Z = true) (w2 : (Cond.arrayOver (.array ty)).before a0 Z = true) (hN : z.toNatClampNeg = N) (had : "[" ++ K = ad) (hz : ¬ z < 0) {cap : Nat} (hcap : N ≤ cap) (hbig : cap * 8 ≤ 536870912) (hd : decode bytes pc = .ok (.anewarray index, 3)) (hc : k + 1 ≤ R.cells) (hl : n + cap ≤ R.slots)
    (H : ∀ h' a, a = h.size → Ext h h' → Exa Z h' a ad → FaA Z h' a ty K N (fun _ => .null) → Wk W p l e R s m args below meth c n0 Q h' (k + 1) (n + cap) (mkF m (pc + 3) Ls (.ref a :: st))) :
    Wk W p l e R s m args below meth c n0 Q h k n (mkF m pc Ls (.int z :: st)) := by
  intro T L vm0 X B eT Nn
  subst hN
  obtain ⟨T', h', cA, X', e', E, A, Ex, O, st⟩ := Jvm.RoadKit.newRA X C.hx (C.wZ B) (C.wo B) hK w1 w2 eT (g := mkF m pc Ls (.int z :: st)) rfl (hb C.hby hd) rfl hz hcap hbig hc hl had
  obtain ⟨s₂, o, h1, h2⟩ := H h' _ rfl E Ex (FaA.new A O) T' L vm0 X' (B.mono E.1) e' Nn
  exact ⟨s₂, o, st _ h1, h2⟩
theorem Wk.fNewO (C : Cx Z p s m meth c y bytes maxL ret) {index : Nat} {z : Int32} (w1 : (Cond.classLink y.cls index K).before a0 Z = true) (w2 : (Cond.arrayOver (.object K)).before a0 Z = true) (hN : z.toNatClampNeg = N) (hz : ¬ z < 0) {cap : Nat} (hcap : N ≤ cap) (hbig : cap * 8 ≤ 536870912) (hd : decode bytes pc = .ok (.anewarray index, 3)) (hc : k + 1 ≤ R.cells) (hl : n + cap ≤ R.slots)
    (H : ∀ h' a, a = h.size → Ext h h' → FaO Z h' a K N (fun _ => .null) → Wk W p l e R s m args below meth c n0 Q h' (k + 1) (n + cap) (mkF m (pc + 3) Ls (.ref a :: st))) :
    Wk W p l e R s m args below meth c n0 Q h k n (mkF m pc Ls (.int z :: st)) := by
  subst hN
  exact Wk.newR C w1 w2 hz hcap hbig hd hc hl fun h' a cA g E A O => H h' a g E (FaO.new A O)
theorem FaA.sto {f : Nat → Value} (F : FaA Z h a ty K N f) {b : Addr} (E : Exa Z h b K) : Sto Z h a (.ref b) := by obtain ⟨c, A, O, -⟩ := F; exact Sto.ofVA A rfl O (Ins.self E)
end Rules
end Jvm.Own
namespace Jvm.Own
theorem nm0 {a : Nat} : a ∉ ([] : List Nat) := by simp
theorem nmS {a b : Nat} {ws : List Nat} (h : a ≠ b) (t : a ∉ ws) : a ∉ b :: ws := by simp [h, t]
theorem nv0 {P : Nat → Prop} : ∀ x ∈ ([] : List Nat), P x := fun _ q => nomatch q
theorem nvS {P : Nat → Prop} {b : Nat} {ws : List Nat} (h : P b) (t : ∀ x ∈ ws, P x) : ∀ x ∈ b :: ws, P x := fun x q => (List.mem_cons.mp q).elim (fun e => e ▸ h) (t x)
end Jvm.Own
namespace Jvm.Own
open Jvm Jvm.ClassFile Sem Op Lib Jvm.Free Jvm.Stand Jvm.LawKit Jvm.RoadKit
theorem dupX2 {tb : Tables} [Ours tb] {e : Env} {below : List Frame} {T target : State} {m : MethodId} {c : Code} {g : JFrame} (h : At T m c below) (hx : tb.exec = Jvm.exec) (hg : g.method = m) {x y z : Value} {rest : List Value} (hd : decode c.code g.pc = .ok (.dup_x2, 1)) (hs : g.stack = x :: y :: z :: rest) (hc : x.category = 1) (hc2 : y.category = 1) (hc3 : z.category = 1)
    (hr : Steps tb e below (T.setTop { g with pc := g.pc + 1, stack := x :: y :: z :: x :: rest }) target) : Steps tb e below (T.setTop g) target := by
  subst hg
  jvm_step h [h.top, hx, hd, hs, hc, hc2, hc3, dup_x2.wp_sem]
  exact hr
end Jvm.Own
namespace Jvm.Own
open Jvm Jvm.ClassFile Sem Op Lib Jvm.Free Jvm.Stand Jvm.LawKit Jvm.RoadKit
theorem fld_known {Z : State} {h : Heap} {a : Addr} {C n d : String} {v : Value} (F : Fld Z h a C n d v) : ∃ cell : Cell, h[a]? = some cell ∧ cell.vm ≠ .unknown := by
  obtain ⟨cell, _, _, _, _, h1, -, -, h4, -⟩ := F; exact ⟨cell, h1, h4⟩
end Jvm.Own
namespace Jvm.Own
open Jvm Jvm.ClassFile Sem Op Lib Jvm.Free Jvm.Stand Jvm.LawKit Jvm.RoadKit
/-! a private method by invokevirtual; ldc_w of an int -/
theorem sel_priv {Z : State} {a0 : Array Value} {y : MethodName} {sz : Nat} (wi : (Cond.instantiable y.cls sz).before a0 Z = true) (wp : (Cond.privateMethod y).before a0 Z = true) (w2 : (Cond.instanceMethod y).before a0 Z = true) (hy : y.cls ≠ "java/lang/invoke/MethodHandle" ∧ y.cls ≠ "java/lang/invoke/VarHandle") : (Cond.selects y.cls y y).before a0 Z = true := by
  obtain ⟨c, k, h1, h2, -, h4, -⟩ := Cond.instantiable_spec wi
  exact selects_self_of_private h1 h2 (Bool.or_eq_false_iff.mp h4).1 (Cond.privateMethod_at wp) w2 hy
section Rules
variable {W : Bool} {Z : State} {p : Program} {l : Launch} {e : Env} {R : Room} {s : State} {m : MethodId} {args : Array Value} {below : List Frame} {meth : Method} {c : Code} {y : MethodName} {bytes : ByteArray} {maxL : Nat} {ret : Option FieldType} {n0 : Nat} {Q : Option Value → Heap → Prop} {h : Heap} {k n : Nat} {g g' : JFrame} {a0 : Array Value}
theorem Wk.ldcWI (C : Cx Z p s m meth c y bytes maxL ret) {index : Nat} {v : Int32} (w : (Cond.constant y.cls index v).before a0 Z = true) {pc : Nat} {Ls : Array Slot} {st : List Value} (hd : decode bytes pc = .ok (.ldc_w index, 3))
    (H : Wk W p l e R s m args below meth c n0 Q h k n (mkF m (pc + 3) Ls (.int v :: st))) : Wk W p l e R s m args below meth c n0 Q h k n (mkF m pc Ls st) :=
  Wk.stZ C (fun X hZ ho eT => ⟨_, X, eT, fun t q => X.ldcWI C.hx ho (mvT hZ w) rfl (hb C.hby hd) q⟩) H
theorem Wk.callP (C : Cx Z p s m meth c y bytes maxL ret) {z : MethodName} {K : String} {index sz : Nat} {bz : ByteArray} {mz : Nat} {rz : Option FieldType} {rm : Room} {a : Addr} {asL : List Value} {Qz : Option Value → Heap → Prop}
    (w1 : (Cond.methodLink y.cls index z).before a0 Z = true) (w2 : (Cond.instanceMethod z).before a0 Z = true) (wp : (Cond.privateMethod z).before a0 Z = true) (wi : (Cond.instantiable z.cls sz).before a0 Z = true) (w3 : (Cond.initialized z.cls).before a0 Z = true) (w4 : (Cond.code z bz mz rz).before a0 Z = true)
    (hz : z.cls ≠ "java/lang/invoke/MethodHandle" ∧ z.cls ≠ "java/lang/invoke/VarHandle") (E : Exa Z h a K) (M : Met false l Z n0 z bz mz rz rm (.ref a :: asL).toArray h Qz) {w : Nat} (hf : rm.frames + 1 ≤ R.frames) (hl : w + (mz + 11) + rm.locals ≤ R.locals)
    {ps : List FieldType} {r : Option FieldType} (hlen : parseMethodDescriptor z.desc = some ⟨ps, r⟩) (hps : asL.length = ps.length) {pc : Nat} {Ls : Array Slot} {st rest : List Value} (hls : Ls.size = maxL) (hst : st = asL.reverse ++ .ref a :: rest) (hw : (rest.map fun v => v.category).sum ≤ w)
    (hc : k + rm.cells ≤ R.cells) (hs : n + rm.slots ≤ R.slots) (hd : decode bytes pc = .ok (.invokevirtual index, 3))
    (H : ∀ v h', Qz v h' → Wk false p l e R s m args below meth c n0 Q h' (k + rm.cells) (n + rm.slots) (mkF m (pc + 3) Ls (v.toList ++ rest))) : Wk false p l e R s m args below meth c n0 Q h k n (mkF m pc Ls st) := by
  intro T L vm0 X B eT N
  subst hst
  have hZ := C.wZ B
  have ho := C.wo B
  have hw' : 2 * (mkF m pc Ls (asL.reverse ++ .ref a :: rest)).monitorRoom + (rest.map fun v => v.category).sum ≤ w := by show 2 * 0 + _ ≤ _; omega
  obtain ⟨cq, qa, qc⟩ := Exa.cell E
  obtain ⟨v, vm₁, ⟨T', L', k', n'⟩, -, X', ⟨Lc, hQ, l1, y1, z1⟩, st⟩ := X.privateBack C.hx (y := z) ho (mvT hZ w1) (mvT hZ w2) (mvT hZ (sel_priv wi wp w2 hz)) (Cond.privateMethod_at (mvP hZ wp (args := #[]))) (mvT hZ w4) hz (backOf (W := w) (Q := fun v h L => Qz v h ∧ Fr n0 L) (M []) hZ w4 w3 hf hl) (g := mkF m pc Ls (asL.reverse ++ .ref a :: rest)) rfl (hls.trans C.hml.symm) (Steps.refl _) (a := a) (eT ▸ qa) qc (argsL := asL) (rest := rest) (lenOf hlen hps) rfl hw' (hb C.hby hd) (fun _ _ => ⟨rfl, eT, hc, hs⟩)
  dsimp only [Pt.U, Pt.locs, Pt.cells, Pt.slots] at X' l1 y1 z1 st hQ
  subst l1 y1 z1
  obtain ⟨s₂, o, h1, h2⟩ := H v T'.heap hQ.1 T' _ vm0 X' (B : vm0 = s.vm) rfl (N.app hQ.2)
  exact ⟨s₂, o, st.trans h1, h2⟩
end Rules
end Jvm.Own
namespace Jvm.Own
open Jvm Jvm.ClassFile Sem Op Lib Jvm.Free Jvm.Stand Jvm.LawKit Jvm.RoadKit
/-! System.arraycopy, clone, instanceof, super and interface calls (narrow frame) -/
/-- what a copy leaves -/
def cpf (f g : Nat → Value) (sp dp nn : Nat) : Nat → Value := fun i => if dp ≤ i ∧ i < dp + nn then f (sp + (i - dp)) else g i
section Rules
variable {W : Bool} {Z : State} {p : Program} {l : Launch} {e : Env} {R : Room} {s : State} {m : MethodId} {args : Array Value} {below : List Frame} {meth : Method} {c : Code} {y : MethodName} {bytes : ByteArray} {maxL : Nat} {ret : Option FieldType} {n0 : Nat} {Q : Option Value → Heap → Prop} {h : Heap} {k n : Nat} {g g' : JFrame} {a0 : Array Value}
theorem i32n {i : Nat} (h : i < 2147483648) : (Int32.ofNat i).toInt = i := Int32.toInt_ofNat_of_lt h
theorem i32c {i : Nat} (h : i < 2147483648) : (Int32.ofNat i).toNatClampNeg = i := by simp only [Int32.toNatClampNeg]; rw [i32n h]; omega
theorem i32p {i : Nat} (h : i < 2147483648) : ¬ Int32.ofNat i < 0 := by rw [XT.negI32, i32n h]; omega
theorem Wk.acopy (C : Cx Z p s m meth c y bytes maxL ret) {index : Nat} (w1 : (Cond.methodLink y.cls index Jvm.Stand.acN).before a0 Z = true) (w2 : (Cond.native Jvm.Stand.acN).before a0 Z = true) (w3 : (Cond.static Jvm.Stand.acN).before a0 Z = true) (w4 : (Cond.initialized "java/lang/System").before a0 Z = true)
    {a b : Addr} {ty : FieldType} {N M : Nat} {f f' : Nat → Value} (F : Fa Z h a ty N f) (G : Fa Z h b ty M f') (hp : refKind ty = false) {sp dp nn : Nat} (q1 : sp + nn ≤ N) (q2 : dp + nn ≤ M) (hfit : ∀ i, i < N → fits ty (f i) = true) (ge : n0 ≤ b)
    {pc : Nat} {Ls : Array Slot} {rest : List Value} (hls : Ls.size = maxL) (hd : decode bytes pc = .ok (.invokestatic index, 3)) (hf : 1 ≤ R.frames) {w : Nat} (hw : (rest.map fun v => v.category).sum ≤ w) (hlo : w + (nativeFrameWords "java/lang/System" "arraycopy" 5 + 11) ≤ R.locals)
    (H : ∀ h', Keep h h' [b] → Fa Z h' b ty M (cpf f f' sp dp nn) → Wk W p l e R s m args below meth c n0 Q h' k n (mkF m (pc + 3) Ls rest)) :
    Wk W p l e R s m args below meth c n0 Q h k n (mkF m pc Ls (.int (Int32.ofNat nn) :: .int (Int32.ofNat dp) :: .ref b :: .int (Int32.ofNat sp) :: .ref a :: rest)) := by
  intro T L vm0 X B eT Nn
  obtain ⟨cs, As, Ss, Ns, Hs⟩ := F
  obtain ⟨cd, Ad, Sd, Nd, Hd⟩ := G
  have hZ := C.wZ B
  obtain ⟨os, ks, hks, sc, hsk⟩ := State.isArrayOf_alike hZ.alike As.2.1
  obtain ⟨od, kd, hkd, dc, hdk⟩ := State.isArrayOf_alike hZ.alike Ad.2.1
  have b1 : sp < 2147483648 := by omega
  have b2 : dp < 2147483648 := by omega
  have b3 : nn < 2147483648 := by omega
  have gv : ∀ i, i < nn → cs.slots.getD (sp + i) .null = f (sp + i) := fun i hi => by
    rw [Array.getD_eq_getD_getElem?, Hs (sp + i) (by omega)]; rfl
  obtain ⟨vm₁, hW₁, X', st⟩ := X.arraycopyK C.hx (C.wo B) (mvT hZ w1) (mvT hZ w2) (mvT hZ w3) (mvT hZ w4) (by rw [eT]; exact As.1) (by rw [eT]; exact Ad.1) os od As.2.2 Ad.2.2 hks hkd hsk hdk
    (by simp [hp]) (i32p b1) (i32p b2) (i32p b3) (by rw [i32n b1, i32n b3, Ss]; omega) (by rw [i32n b2, i32n b3, Sd]; omega) (fun vm₁ hw i hi => by
      rw [i32c b3] at hi
      rw [i32c b1, gv i hi]; refine ⟨hfit _ (by omega), ?_⟩
      have q := hfit (sp + i) (by omega)
      generalize f (sp + i) = u at q ⊢
      cases u <;> try trivial
      exact (prim_no_ref hp q).elim) (g := mkF m pc Ls (.int (Int32.ofNat nn) :: .int (Int32.ofNat dp) :: .ref b :: .int (Int32.ofNat sp) :: .ref a :: rest)) rfl (hls.trans C.hml.symm) rfl (hb C.hby hd) hf (by show 2 * 0 + _ + _ ≤ _; omega)
  have hbl : b < h.size := Ad.lt
  have cf : (copied cs cd (Int32.ofNat sp) (Int32.ofNat dp) (Int32.ofNat nn)).cls = cd.cls ∧ (copied cs cd (Int32.ofNat sp) (Int32.ofNat dp) (Int32.ofNat nn)).vm = cd.vm ∧ (copied cs cd (Int32.ofNat sp) (Int32.ofNat dp) (Int32.ofNat nn)).slots.size = cd.slots.size :=
    let q := cd.storeRun_facts (Int32.ofNat dp).toNatClampNeg (cs.stretch (Int32.ofNat sp).toNatClampNeg (Int32.ofNat nn).toNatClampNeg); ⟨q.1, q.2.1, q.2.2.1⟩
  have eh : ((T.setVm vm₁).setCell b (copied cs cd (Int32.ofNat sp) (Int32.ofNat dp) (Int32.ofNat nn))).heap = h.setIfInBounds b (copied cs cd (Int32.ofNat sp) (Int32.ofNat dp) (Int32.ofNat nn)) := by rw [← eT]; rfl
  have hsz : (h.setIfInBounds b (copied cs cd (Int32.ofNat sp) (Int32.ofNat dp) (Int32.ofNat nn))).size = h.size := Array.size_setIfInBounds
  have Kp : Keep h (h.setIfInBounds b (copied cs cd (Int32.ofNat sp) (Int32.ofNat dp) (Int32.ofNat nn))) [b] := by
    refine ⟨Nat.le_of_eq hsz.symm, fun x cl hx hm => ?_, fun x cl hx => ?_⟩
    · rw [Array.getElem?_setIfInBounds_ne (fun q => hm (List.mem_singleton.mpr q.symm))]; exact hx
    · by_cases q : b = x
      · subst q
        cases Ad.1.symm.trans hx
        exact ⟨_, by simp [hbl], cf.1, cf.2.1, cf.2.2⟩
      · exact ⟨cl, by rw [Array.getElem?_setIfInBounds_ne q]; exact hx, rfl, rfl, rfl⟩
  have Fn : Fa Z (h.setIfInBounds b (copied cs cd (Int32.ofNat sp) (Int32.ofNat dp) (Int32.ofNat nn))) b ty M (cpf f f' sp dp nn) := by
    refine ⟨copied cs cd (Int32.ofNat sp) (Int32.ofNat dp) (Int32.ofNat nn), ⟨by simp [hbl], ?_, ?_⟩, cf.2.2.trans Sd, Nd, fun i hi => ?_⟩
    · have := Ad.2.1
      simp only [State.isArrayOf] at this ⊢
      rw [cf.1, cf.2.1]; exact this
    · rw [cf.2.1]; exact Ad.2.2
    · show (cd.storeRun _ (cs.stretch _ _)).slots[i]? = _
      have ul : (cs.stretch sp nn).length = nn := by simp [Cell.stretch]
      rw [i32c b1, i32c b2, i32c b3, Cell.storeRun_get _ _ _ _ (by rw [ul, Sd]; exact q2), ul]
      simp only [cpf]
      by_cases q : dp ≤ i ∧ i < dp + nn
      · rw [if_pos q, if_pos q]
        show ((List.range nn).map fun i => cs.slots.getD (sp + i) .null)[i - dp]? = _
        rw [List.getElem?_map, List.getElem?_range (by omega)]
        exact congrArg some (gv (i - dp) (by omega))
      · rw [if_neg q, if_neg q]; exact Hd i hi
  obtain ⟨s₂, o, h1, h2⟩ := H _ Kp Fn _ _ vm0 X' (B.mono (Nat.le_of_eq hsz.symm)) eh (Nn.app fun y hy => by
    obtain ⟨i, -, rfl⟩ := List.mem_map.mp hy; exact ge)
  exact ⟨s₂, o, st _ h1, h2⟩
theorem Wk.isY (C : Cx Z p s m meth c y bytes maxL ret) {K : String} {index : Nat} (w : (Cond.classLink y.cls index K).before a0 Z = true) {a : Addr} (F : Ins Z h a K true) {pc : Nat} {Ls : Array Slot} {st : List Value} (hd : decode bytes pc = .ok (.instanceof index, 3))
    (H : Wk W p l e R s m args below meth c n0 Q h k n (mkF m (pc + 3) Ls (.int 1 :: st))) : Wk W p l e R s m args below meth c n0 Q h k n (mkF m pc Ls (.ref a :: st)) :=
  Wk.stZ C (fun X hZ ho eT => instY X C.hx hZ ho w eT F (g := mkF m pc Ls (.ref a :: st)) rfl rfl (hb C.hby hd)) H
theorem Wk.isN (C : Cx Z p s m meth c y bytes maxL ret) {K K' : String} {index : Nat} (w : (Cond.classLink y.cls index K).before a0 Z = true) {a : Addr} (E : Exa Z h a K') (F : ∃ c t, Z.vm.findClass K' = some c ∧ Z.vm.findClass K = some t ∧ Z.vm.assignable c t = false) {pc : Nat} {Ls : Array Slot} {st : List Value} (hd : decode bytes pc = .ok (.instanceof index, 3))
    (H : Wk W p l e R s m args below meth c n0 Q h k n (mkF m (pc + 3) Ls (.int 0 :: st))) : Wk W p l e R s m args below meth c n0 Q h k n (mkF m pc Ls (.ref a :: st)) :=
  Wk.stZ C (fun X hZ ho eT => instNo X C.hx hZ ho w eT E F (g := mkF m pc Ls (.ref a :: st)) rfl rfl (hb C.hby hd)) H
theorem Wk.callSup (C : Cx Z p s m meth c y bytes maxL ret) {z : MethodName} {K : String} {index : Nat} {bz : ByteArray} {mz : Nat} {rz : Option FieldType} {rm : Room} {a : Addr} {asL : List Value} {Qz : Option Value → Heap → Prop}
    (w1 : (Cond.methodLink y.cls index z).before a0 Z = true) (w2 : (Cond.sameMethod z.cls z.cls z.name z.desc).before a0 Z = true) (w5 : (Cond.instanceMethod z).before a0 Z = true) (w6 : (Cond.superclass y.cls z.cls).before a0 Z = true) (w3 : (Cond.initialized z.cls).before a0 Z = true) (w4 : (Cond.code z bz mz rz).before a0 Z = true)
    (hn : z.name ≠ "<init>") (E : Exa Z h a K) (M : Met false l Z n0 z bz mz rz rm (.ref a :: asL).toArray h Qz) {w : Nat} (hf : rm.frames + 1 ≤ R.frames) (hl : w + (mz + 11) + rm.locals ≤ R.locals)
    {ps : List FieldType} {r : Option FieldType} (hlen : parseMethodDescriptor z.desc = some ⟨ps, r⟩) (hps : asL.length = ps.length) {pc : Nat} {Ls : Array Slot} {st rest : List Value} (hls : Ls.size = maxL) (hst : st = asL.reverse ++ .ref a :: rest) (hw : (rest.map fun v => v.category).sum ≤ w)
    (hc : k + rm.cells ≤ R.cells) (hs : n + rm.slots ≤ R.slots) (hd : decode bytes pc = .ok (.invokespecial index, 3))
    (H : ∀ v h', Qz v h' → Wk false p l e R s m args below meth c n0 Q h' (k + rm.cells) (n + rm.slots) (mkF m (pc + 3) Ls (v.toList ++ rest))) : Wk false p l e R s m args below meth c n0 Q h k n (mkF m pc Ls st) := by
  intro T L vm0 X B eT N
  subst hst
  have hZ := C.wZ B
  have ho := C.wo B
  have hw' : 2 * (mkF m pc Ls (asL.reverse ++ .ref a :: rest)).monitorRoom + (rest.map fun v => v.category).sum ≤ w := by show 2 * 0 + _ ≤ _; omega
  obtain ⟨v, vm₁, ⟨T', L', k', n'⟩, -, X', ⟨Lc, hQ, l1, y1, z1⟩, st⟩ := superBack X C.hx hZ (y := z) ho w1 w2 w5 w6 hn (backOf (W := w) (Q := fun v h L => Qz v h ∧ Fr n0 L) (M []) hZ w4 w3 hf hl) eT (Ins.self E) (g := mkF m pc Ls (asL.reverse ++ .ref a :: rest)) rfl (hls.trans C.hml.symm) w4 (argsL := asL) (rest := rest) (lenOf hlen hps) rfl hw' (hb C.hby hd) (fun _ _ => ⟨rfl, eT, hc, hs⟩)
  dsimp only [Pt.U, Pt.locs, Pt.cells, Pt.slots] at X' l1 y1 z1 st hQ
  subst l1 y1 z1
  obtain ⟨s₂, o, h1, h2⟩ := H v T'.heap hQ.1 T' _ vm0 X' (B : vm0 = s.vm) rfl (N.app hQ.2)
  exact ⟨s₂, o, st.trans h1, h2⟩
end Rules
end Jvm.Own
namespace Jvm.Own
open Jvm Jvm.ClassFile Sem Op Lib Jvm.Free Jvm.Stand Jvm.LawKit Jvm.RoadKit
theorem same_self {Z : State} {a0 : Array Value} {y x' z' : MethodName} {K : String} (w : (Cond.instanceMethod y).before a0 Z = true) (ws : (Cond.selects K x' z').before a0 Z = true) (hc : z'.cls = y.cls) (hy : y.cls ≠ "java/lang/invoke/MethodHandle" ∧ y.cls ≠ "java/lang/invoke/VarHandle") : (Cond.sameMethod y.cls y.cls y.name y.desc).before a0 Z = true := by
  obtain ⟨mk, methM, hnamed, hmethM, -, -⟩ := Cond.instanceMethod_spec w
  have hfound : Z.methodFound? y.cls y.name y.desc = some mk := State.methodFound?_of_named hnamed hy
  have hn : Z.methodNamed? ⟨y.cls, y.name, y.desc⟩ = some mk := hnamed
  obtain ⟨c2, r2, m2, q1, q2, q3, q4, kP, hkP, hkPi⟩ := Cond.selects_spec ws
  have hf := findClass_of_methodNamed q3
  rw [hc] at hf
  simp [Cond.before, Cond.holds, Cond.value, hfound, hn, hf, hkP, hkPi]
/-- a private method of a superclass, by what a subclass selects -/
theorem sel_priv2 {Z : State} {a0 : Array Value} {y : MethodName} {K : String} (ws : (Cond.selects K y y).before a0 Z = true) (wp : (Cond.privateMethod y).before a0 Z = true) (w2 : (Cond.instanceMethod y).before a0 Z = true) (hy : y.cls ≠ "java/lang/invoke/MethodHandle" ∧ y.cls ≠ "java/lang/invoke/VarHandle") : (Cond.selects y.cls y y).before a0 Z = true := by
  obtain ⟨c2, r2, m2, q1, q2, q3, q4, kP, hkP, hkPi⟩ := Cond.selects_spec ws
  exact selects_self_of_private (findClass_of_methodNamed q3) hkP hkPi (Cond.privateMethod_at wp) w2 hy
section Rules
variable {W : Bool} {Z : State} {p : Program} {l : Launch} {e : Env} {R : Room} {s : State} {m : MethodId} {args : Array Value} {below : List Frame} {meth : Method} {c : Code} {y : MethodName} {bytes : ByteArray} {maxL : Nat} {ret : Option FieldType} {n0 : Nat} {Q : Option Value → Heap → Prop} {h : Heap} {k n : Nat} {g g' : JFrame} {a0 : Array Value}
/-- a private method, the receiver of a subclass -/
theorem Wk.callP2 (C : Cx Z p s m meth c y bytes maxL ret) {z : MethodName} {K K' : String} {index : Nat} {bz : ByteArray} {mz : Nat} {rz : Option FieldType} {rm : Room} {a : Addr} {asL : List Value} {Qz : Option Value → Heap → Prop}
    (w1 : (Cond.methodLink y.cls index z).before a0 Z = true) (w2 : (Cond.instanceMethod z).before a0 Z = true) (wp : (Cond.privateMethod z).before a0 Z = true) (ws : (Cond.selects K' z z).before a0 Z = true) (w3 : (Cond.initialized z.cls).before a0 Z = true) (w4 : (Cond.code z bz mz rz).before a0 Z = true)
    (hz : z.cls ≠ "java/lang/invoke/MethodHandle" ∧ z.cls ≠ "java/lang/invoke/VarHandle") (E : Exa Z h a K) (M : Met false l Z n0 z bz mz rz rm (.ref a :: asL).toArray h Qz) {w : Nat} (hf : rm.frames + 1 ≤ R.frames) (hl : w + (mz + 11) + rm.locals ≤ R.locals)
    {ps : List FieldType} {r : Option FieldType} (hlen : parseMethodDescriptor z.desc = some ⟨ps, r⟩) (hps : asL.length = ps.length) {pc : Nat} {Ls : Array Slot} {st rest : List Value} (hls : Ls.size = maxL) (hst : st = asL.reverse ++ .ref a :: rest) (hw : (rest.map fun v => v.category).sum ≤ w)
    (hc : k + rm.cells ≤ R.cells) (hs : n + rm.slots ≤ R.slots) (hd : decode bytes pc = .ok (.invokevirtual index, 3))
    (H : ∀ v h', Qz v h' → Wk false p l e R s m args below meth c n0 Q h' (k + rm.cells) (n + rm.slots) (mkF m (pc + 3) Ls (v.toList ++ rest))) : Wk false p l e R s m args below meth c n0 Q h k n (mkF m pc Ls st) := by
  intro T L vm0 X B eT N
  subst hst
  have hZ := C.wZ B
  have ho := C.wo B
  have hw' : 2 * (mkF m pc Ls (asL.reverse ++ .ref a :: rest)).monitorRoom + (rest.map fun v => v.category).sum ≤ w := by show 2 * 0 + _ ≤ _; omega
  obtain ⟨cq, qa, qc⟩ := Exa.cell E
  obtain ⟨v, vm₁, ⟨T', L', k', n'⟩, -, X', ⟨Lc, hQ, l1, y1, z1⟩, st⟩ := X.privateBack C.hx (y := z) ho (mvT hZ w1) (mvT hZ w2) (mvT hZ (sel_priv2 ws wp w2 hz)) (Cond.privateMethod_at (mvP hZ wp (args := #[]))) (mvT hZ w4) hz (backOf (W := w) (Q := fun v h L => Qz v h ∧ Fr n0 L) (M []) hZ w4 w3 hf hl) (g := mkF m pc Ls (asL.reverse ++ .ref a :: rest)) rfl (hls.trans C.hml.symm) (Steps.refl _) (a := a) (eT ▸ qa) qc (argsL := asL) (rest := rest) (lenOf hlen hps) rfl hw' (hb C.hby hd) (fun _ _ => ⟨rfl, eT, hc, hs⟩)
  dsimp only [Pt.U, Pt.locs, Pt.cells, Pt.slots] at X' l1 y1 z1 st hQ
  subst l1 y1 z1
  obtain ⟨s₂, o, h1, h2⟩ := H v T'.heap hQ.1 T' _ vm0 X' (B : vm0 = s.vm) rfl (N.app hQ.2)
  exact ⟨s₂, o, st.trans h1, h2⟩
/-- a constructor of a nest mate -/
theorem Wk.callN (C : Cx Z p s m meth c y bytes maxL ret) {z : MethodName} {host : String} {index : Nat} {bz : ByteArray} {mz : Nat} {rm : Room} {a : Addr} {asL : List Value} {Qz : Option Value → Heap → Prop} (hz1 : z.name = "<init>")
    (w1 : ∀ {s' : State} {ar : Array Value}, Z.Warmed39 s'.vm → (Cond.methodLinkNest y.cls index z host).before ar s' = true) (w2 : (Cond.instanceMethod z).before a0 Z = true) (w3 : (Cond.initialized z.cls).before a0 Z = true) (w4 : (Cond.code z bz mz none).before a0 Z = true)
    (hz : z.cls ≠ "java/lang/invoke/MethodHandle" ∧ z.cls ≠ "java/lang/invoke/VarHandle") (M : Met false l Z n0 z bz mz none rm (.ref a :: asL).toArray h Qz) {w : Nat} (hf : rm.frames + 1 ≤ R.frames) (hl : w + (mz + 11) + rm.locals ≤ R.locals)
    {ps : List FieldType} {r : Option FieldType} (hlen : parseMethodDescriptor z.desc = some ⟨ps, r⟩) (hps : asL.length = ps.length) {pc : Nat} {Ls : Array Slot} {st rest : List Value} (hls : Ls.size = maxL) (hst : st = asL.reverse ++ .ref a :: rest) (hw : (rest.map fun v => v.category).sum ≤ w)
    (hc : k + rm.cells ≤ R.cells) (hs : n + rm.slots ≤ R.slots) (hd : decode bytes pc = .ok (.invokespecial index, 3))
    (H : ∀ v h', Qz v h' → Wk false p l e R s m args below meth c n0 Q h' (k + rm.cells) (n + rm.slots) (mkF m (pc + 3) Ls (v.toList ++ rest))) : Wk false p l e R s m args below meth c n0 Q h k n (mkF m pc Ls st) := by
  intro T L vm0 X B eT N
  subst hst
  have hZ := C.wZ B
  have ho := C.wo B
  have hw' : 2 * (mkF m pc Ls (asL.reverse ++ .ref a :: rest)).monitorRoom + (rest.map fun v => v.category).sum ≤ w := by show 2 * 0 + _ ≤ _; omega
  obtain ⟨v, vm₁, ⟨T', L', k', n'⟩, -, X', ⟨Lc, hQ, l1, y1, z1⟩, st⟩ := X.specialBackNest C.hx hz1 ho (w1 hZ) (mvT hZ w2) (mvT hZ w4) hz (backOf (W := w) (Q := fun v h L => Qz v h ∧ Fr n0 L) (M []) hZ w4 w3 hf hl) (g := mkF m pc Ls (asL.reverse ++ .ref a :: rest)) rfl (hls.trans C.hml.symm) (Steps.refl _) (a := a) (argsL := asL) (rest := rest) (lenOf hlen hps) rfl hw' (hb C.hby hd) (fun _ _ => ⟨rfl, eT, hc, hs⟩)
  dsimp only [Pt.U, Pt.locs, Pt.cells, Pt.slots] at X' l1 y1 z1 st hQ
  subst l1 y1 z1
  obtain ⟨s₂, o, h1, h2⟩ := H v T'.heap hQ.1 T' _ vm0 X' (B : vm0 = s.vm) rfl (N.app hQ.2)
  exact ⟨s₂, o, st.trans h1, h2⟩
/-- an interface method -/
theorem Wk.callF (C : Cx Z p s m meth c y bytes maxL ret) {x z : MethodName} {K : String} {index count : Nat} {bz : ByteArray} {mz : Nat} {rz : Option FieldType} {rm : Room} {a : Addr} {asL : List Value} {Qz : Option Value → Heap → Prop}
    (w1 : (Cond.methodLink y.cls index x).before a0 Z = true) (w2 : (Cond.declares x).before a0 Z = true) (wf : ∀ {s' : State} {ar : Array Value}, Z.Warmed39 s'.vm → (Cond.interfaceMethod x.cls x.cls x.name x.desc).before ar s' = true) (w5 : (Cond.selects K x z).before a0 Z = true) (w6 : (Cond.instanceMethod z).before a0 Z = true) (wp : ∀ {s' : State} {ar : Array Value}, Z.Warmed39 s'.vm → (Cond.publicMethod z).before ar s' = true) (wu : ∀ {s' : State} {ar : Array Value}, Z.Warmed39 s'.vm → (Cond.unhidden K x.name x.desc).before ar s' = true) (wc : ∀ {s' : State} {ar : Array Value}, Z.Warmed39 s'.vm → (Cond.castable K x.cls).before ar s' = true) (w3 : (Cond.initialized z.cls).before a0 Z = true) (w4 : (Cond.code z bz mz rz).before a0 Z = true)
    (hz : x.cls ≠ "java/lang/invoke/MethodHandle" ∧ x.cls ≠ "java/lang/invoke/VarHandle") (E : Exa Z h a K) (M : Met false l Z n0 z bz mz rz rm (.ref a :: asL).toArray h Qz) {w : Nat} (hf : rm.frames + 1 ≤ R.frames) (hl : w + (mz + 11) + rm.locals ≤ R.locals)
    {ps : List FieldType} {r : Option FieldType} (hlen : parseMethodDescriptor x.desc = some ⟨ps, r⟩) (hps : asL.length = ps.length) {pc : Nat} {Ls : Array Slot} {st rest : List Value} (hls : Ls.size = maxL) (hst : st = asL.reverse ++ .ref a :: rest) (hw : (rest.map fun v => v.category).sum ≤ w)
    (hc : k + rm.cells ≤ R.cells) (hs : n + rm.slots ≤ R.slots) (hd : decode bytes pc = .ok (.invokeinterface index count, 5))
    (H : ∀ v h', Qz v h' → Wk false p l e R s m args below meth c n0 Q h' (k + rm.cells) (n + rm.slots) (mkF m (pc + 5) Ls (v.toList ++ rest))) : Wk false p l e R s m args below meth c n0 Q h k n (mkF m pc Ls st) := by
  intro T L vm0 X B eT N
  subst hst
  have hZ := C.wZ B
  have ho := C.wo B
  have hw' : 2 * (mkF m pc Ls (asL.reverse ++ .ref a :: rest)).monitorRoom + (rest.map fun v => v.category).sum ≤ w := by show 2 * 0 + _ ≤ _; omega
  obtain ⟨cq, kq, qa, qb, qc⟩ := isOf hZ eT E
  obtain ⟨v, vm₁, ⟨T', L', k', n'⟩, -, X', ⟨Lc, hQ, l1, y1, z1⟩, st⟩ := X.interfaceBack C.hx (xi := x) (y := z) ho (mvT hZ w1) (mvT hZ w2) (wf hZ) (mvT hZ w5) (mvT hZ w6) (wp hZ) (wu hZ) (wc hZ) hz (backOf (W := w) (Q := fun v h L => Qz v h ∧ Fr n0 L) (M []) hZ w4 w3 hf hl) qa qb qc (g := mkF m pc Ls (asL.reverse ++ .ref a :: rest)) rfl (hls.trans C.hml.symm) (Steps.refl _) (argsL := asL) (rest := rest) (lenOf hlen hps) rfl hw' (hb C.hby hd) (fun _ _ => ⟨rfl, eT, hc, hs⟩)
  dsimp only [Pt.U, Pt.locs, Pt.cells, Pt.slots] at X' l1 y1 z1 st hQ
  subst l1 y1 z1
  obtain ⟨s₂, o, h1, h2⟩ := H v T'.heap hQ.1 T' _ vm0 X' (B : vm0 = s.vm) rfl (N.app hQ.2)
  exact ⟨s₂, o, st.trans h1, h2⟩
/-- clone of an array of a plain kind -/
theorem Wk.clone (C : Cx Z p s m meth c y bytes maxL ret) {ad : String} {index : Nat}
    (w1 : (Cond.methodLink y.cls index ⟨ad, "clone", "()Ljava/lang/Object;"⟩).before a0 Z = true) (w2 : (Cond.sameMethod ad "java/lang/Object" "clone" "()Ljava/lang/Object;").before a0 Z = true) (w3 : (Cond.native ⟨"java/lang/Object", "clone", "()Ljava/lang/Object;"⟩).before a0 Z = true)
    (w4 : (Cond.instanceMethod ⟨"java/lang/Object", "clone", "()Ljava/lang/Object;"⟩).before a0 Z = true) (w5 : (Cond.selects ad ⟨ad, "clone", "()Ljava/lang/Object;"⟩ ⟨"java/lang/Object", "clone", "()Ljava/lang/Object;"⟩).before a0 Z = true) (w6 : (Cond.castable ad "java/lang/Cloneable").before a0 Z = true)
    {a : Addr} {ty : FieldType} {N : Nat} {f : Nat → Value} (F : Fa Z h a ty N f) (E : Exa Z h a ad) (hfit : ∀ i, i < N → fits ty (f i) = true) {pc : Nat} {Ls : Array Slot} {rest : List Value} (hls : Ls.size = maxL) (hd : decode bytes pc = .ok (.invokevirtual index, 3))
    (hf : 1 ≤ R.frames) {w cap : Nat} (hw : (rest.map fun v => v.category).sum ≤ w) (hl : w + 14 ≤ R.locals) (hcap : N ≤ cap) (hc : k + 1 ≤ R.cells) (hsl : n + cap ≤ R.slots)
    (H : ∀ h' b, b = h.size → Ext h h' → Exa Z h' b ad → Fa Z h' b ty N f → Wk W p l e R s m args below meth c n0 Q h' (k + 1) (n + cap) (mkF m (pc + 3) Ls (.ref b :: rest))) :
    Wk W p l e R s m args below meth c n0 Q h k n (mkF m pc Ls (.ref a :: rest)) := by
  intro T L vm0 X B eT Nn
  obtain ⟨cl, A, S, Nd, Hs⟩ := F
  obtain ⟨T', h', X', e', Ex, A', E', st⟩ := cloneA X C.hx (C.wZ B) (C.wo B) w1 w2 w3 w4 w5 w6 eT A E (fitC_of A fun i hi v hv => by
    rw [Hs i (by omega)] at hv; cases hv; exact hfit i (by omega)) (g := mkF m pc Ls (.ref a :: rest)) rfl (hls.trans C.hml.symm) rfl (hb C.hby hd) hf (W := w) (cap := cap) (by show 2 * 0 + _ ≤ _; omega) hl (by omega) hc hsl
  obtain ⟨s₂, o, h1, h2⟩ := H h' _ rfl Ex E' ⟨_, A', S, Nd, Hs⟩ T' L vm0 X' (B.mono Ex.1) e' Nn
  exact ⟨s₂, o, st _ h1, h2⟩
end Rules
end Jvm.Own
namespace Jvm.Own
open Jvm Jvm.ClassFile Sem Op Lib Jvm.Free Jvm.Stand Jvm.LawKit Jvm.RoadKit
/-! numbers: an int or a long that is a small natural number; the leading bit -/
theorem n32 {i : Nat} (h : i < 2147483648) : (Int32.ofNat i).toInt = i := Int32.toInt_ofNat_of_lt h
theorem n64 {i : Nat} (h : i < 9223372036854775808) : (Int64.ofNat i).toInt = i := Int64.toInt_ofNat_of_lt h
theorem e32 {x : Int32} {i : Nat} (h : i < 2147483648) (e : x.toInt = i) : x = Int32.ofNat i := Int32.toInt_inj.mp (e.trans (n32 h).symm)
theorem e64 {x : Int64} {i : Nat} (h : i < 9223372036854775808) (e : x.toInt = i) : x = Int64.ofNat i := Int64.toInt_inj.mp (e.trans (n64 h).symm)
theorem nn32 {i : Nat} (h : i < 2147483648) : ¬ Int32.ofNat i < 0 := by rw [XT.negI32, n32 h]; omega
theorem cl32 {i : Nat} (h : i < 2147483648) : (Int32.ofNat i).toNatClampNeg = i := by simp only [Int32.toNatClampNeg]; rw [n32 h]; omega
theorem lt32 {i j : Nat} (hi : i < 2147483648) (hj : j < 2147483648) : Int32.ofNat i < Int32.ofNat j ↔ i < j := by rw [Int32.lt_iff_toInt_lt, n32 hi, n32 hj]; omega
theorem lt64 {i j : Nat} (hi : i < 9223372036854775808) (hj : j < 9223372036854775808) : Int64.ofNat i < Int64.ofNat j ↔ i < j := by rw [Int64.lt_iff_toInt_lt, n64 hi, n64 hj]; omega
theorem eq64 {i j : Nat} (hi : i < 9223372036854775808) (hj : j < 9223372036854775808) : Int64.ofNat i = Int64.ofNat j ↔ i = j := ⟨fun q => by have := congrArg Int64.toInt q; rw [n64 hi, n64 hj] at this; omega, fun q => by rw [q]⟩
theorem add64 {i j : Nat} (h : i + j < 9223372036854775808) : Int64.ofNat i + Int64.ofNat j = Int64.ofNat (i + j) := by
  apply e64 h
  have := c_ladd (Int64.ofNat i) (Int64.ofNat j); have := Int64.toInt_lt (Int64.ofNat i + Int64.ofNat j); have := Int64.le_toInt (Int64.ofNat i + Int64.ofNat j)
  rw [n64 (by omega), n64 (by omega)] at *; omega
theorem add32 {i j : Nat} (h : i + j < 2147483648) : Int32.ofNat i + Int32.ofNat j = Int32.ofNat (i + j) := by
  apply e32 h
  have := c_iadd (Int32.ofNat i) (Int32.ofNat j); have := Int32.toInt_lt (Int32.ofNat i + Int32.ofNat j); have := Int32.le_toInt (Int32.ofNat i + Int32.ofNat j)
  rw [n32 (by omega), n32 (by omega)] at *; omega
theorem sub32 {i j : Nat} (h : j ≤ i) (hi : i < 2147483648) : Int32.ofNat i - Int32.ofNat j = Int32.ofNat (i - j) := by
  apply e32 (by omega)
  have := c_isub (Int32.ofNat i) (Int32.ofNat j); have := Int32.toInt_lt (Int32.ofNat i - Int32.ofNat j); have := Int32.le_toInt (Int32.ofNat i - Int32.ofNat j)
  rw [n32 (by omega), n32 (by omega)] at *; omega
theorem dbl32 {i : Nat} (h : 2 * i < 2147483648) : (2 : Int32) * Int32.ofNat i = Int32.ofNat (2 * i) := by
  apply e32 h
  have c := c_imul 2 (Int32.ofNat i); have := Int32.toInt_lt (2 * Int32.ofNat i); have := Int32.le_toInt (2 * Int32.ofNat i)
  rw [n32 (by omega), show (2 : Int32).toInt = 2 from rfl] at c; omega
theorem shr32 {i : Nat} (h : i < 2147483648) (q : Int32) (k : Nat) (hk : q.toBitVec.toNat % 32 = k) (h0 : 0 < k) : ((Int32.ofNat i).toUInt32 >>> (q &&& 31).toUInt32).toInt32 = Int32.ofNat (i / 2 ^ k) := by
  apply e32 (Nat.lt_of_le_of_lt (Nat.div_le_self _ _) h)
  rw [c_iushr _ q k hk h0, n32 h, Int.emod_eq_of_lt (by omega) (by omega), Int.natCast_ediv]
theorem shr64 {i : Nat} (h : i < 9223372036854775808) (q : Int32) (k : Nat) (hk : q.toBitVec.toNat % 64 = k) (h0 : 0 < k) : ((Int64.ofNat i).toUInt64 >>> (q &&& 0x3f).toInt64.toUInt64).toInt64 = Int64.ofNat (i / 2 ^ k) := by
  apply e64 (Nat.lt_of_le_of_lt (Nat.div_le_self _ _) h)
  rw [c_lushr _ q k hk h0, n64 h, Int.emod_eq_of_lt (by omega) (by omega), Int.natCast_ediv]
theorem log_div {i k : Nat} (h : 2 ^ k ≤ i) : (i / 2 ^ k).log2 + k = i.log2 := by
  have p : 0 < 2 ^ k := Nat.two_pow_pos k
  have q0 : i / 2 ^ k ≠ 0 := by have := (Nat.le_div_iff_mul_le p).mpr (show 1 * 2 ^ k ≤ i by omega); omega
  have a := Nat.log2_self_le q0
  have b := Nat.lt_log2_self (n := i / 2 ^ k)
  refine ((Nat.log2_eq_iff (by omega)).mpr ⟨?_, ?_⟩).symm
  · rw [Nat.pow_add]; exact (Nat.le_div_iff_mul_le p).mp a
  · rw [show (i / 2 ^ k).log2 + k + 1 = ((i / 2 ^ k).log2 + 1) + k by omega, Nat.pow_add]; exact (Nat.div_lt_iff_lt_mul p).mp b
theorem log_le {i k : Nat} (h : i < 2 ^ (k + 1)) : i.log2 ≤ k := by
  by_cases q : i = 0
  · subst q; simp
  · have := (Nat.log2_lt q).mpr h; omega
theorem le_log {i k : Nat} (h : 2 ^ k ≤ i) : k ≤ i.log2 := (Nat.le_log2 (by have := Nat.two_pow_pos k; omega)).mpr h
/-- what Long.numberOfLeadingZeros answers -/
def nl (v : Nat) : Nat := if v = 0 then 64 else 63 - v.log2
/-- row and bucket in one number -/
def Ky (v : Nat) : Nat := 128 * (v.log2 - 7) + v / 2 ^ (v.log2 - 7)
theorem top_log {v : Nat} (h : 128 ≤ v) : 128 ≤ v / 2 ^ (v.log2 - 7) ∧ v / 2 ^ (v.log2 - 7) < 256 := by
  have l : 7 ≤ v.log2 := le_log (by omega)
  have a := Nat.log2_self_le (n := v) (by omega)
  have b := Nat.lt_log2_self (n := v)
  have p : 0 < 2 ^ (v.log2 - 7) := Nat.two_pow_pos _
  constructor
  · rw [Nat.le_div_iff_mul_le p, show (128 : Nat) = 2 ^ 7 by rfl, ← Nat.pow_add, show 7 + (v.log2 - 7) = v.log2 by omega]; exact a
  · rw [Nat.div_lt_iff_lt_mul p, show (256 : Nat) = 2 ^ 8 by rfl, ← Nat.pow_add, show 8 + (v.log2 - 7) = v.log2 + 1 by omega]; exact b
theorem Ky_small {v : Nat} (h : v < 128) : Ky v = v := by
  have l : v.log2 ≤ 6 := log_le (by omega)
  simp [Ky, show v.log2 - 7 = 0 by omega]
theorem Ky_row {v : Nat} : Ky v / 128 = v.log2 - 6 := by
  by_cases h : v < 128
  · have l : v.log2 ≤ 6 := log_le (by omega)
    rw [Ky_small h]; omega
  · have l : 7 ≤ v.log2 := le_log (by omega)
    have t := top_log (v := v) (by omega)
    unfold Ky; omega
theorem Ky_bkt {v : Nat} : Ky v % 128 = (v / 2 ^ (v.log2 - 7)) % 128 := by unfold Ky; omega
theorem Ky_lt {v : Nat} (h : v < 9223372036854775808) : Ky v / 128 < 57 := by
  have l : v.log2 ≤ 62 := log_le (by omega)
  rw [Ky_row]; omega
end Jvm.Own
namespace Jvm.Own
open Jvm Jvm.ClassFile Sem Op Lib Jvm.Free Jvm.Stand Jvm.LawKit Jvm.RoadKit
theorem dec32 {n j : Nat} {q : Int32} (hq : q.toInt = -(j : Int)) (h : j ≤ n) (hn : n < 2147483648) : Int32.ofNat n + q = Int32.ofNat (n - j) := by
  apply e32 (by omega)
  have c := c_iadd (Int32.ofNat n) q; have := Int32.toInt_lt (Int32.ofNat n + q); have := Int32.le_toInt (Int32.ofNat n + q)
  rw [n32 hn, hq] at c; omega
theorem ge32 {i j : Nat} (hi : i < 2147483648) (hj : j < 2147483648) (h : ¬ Int32.ofNat i < Int32.ofNat j) : j ≤ i := by rw [lt32 hi hj] at h; omega
theorem ls32 {i j : Nat} (hi : i < 2147483648) (hj : j < 2147483648) (h : Int32.ofNat i < Int32.ofNat j) : i < j := (lt32 hi hj).mp h
theorem nz_end {i n : Nat} (h0 : 0 < i) (h : i < 4) (hn : i.log2 ≤ n) (hn2 : n < 2147483648) : Int32.ofNat n - ((Int32.ofNat i).toUInt32 >>> ((1 : Int32) &&& 31).toUInt32).toInt32 = Int32.ofNat (n - i.log2) := by
  have e : i.log2 = i / 2 ^ 1 := by
    have : i = 1 ∨ i = 2 ∨ i = 3 := by omega
    rcases this with rfl | rfl | rfl <;> decide
  rw [shr32 (by omega) 1 1 (by decide) (by decide), ← e, sub32 hn hn2]
theorem l2i_hi {v : Nat} (h : v < 9223372036854775808) : (((Int64.ofNat v).toUInt64 >>> ((32 : Int32) &&& 0x3f).toInt64.toUInt64).toInt64).toInt32 = Int32.ofNat (v / 2 ^ 32) := by
  rw [shr64 h 32 32 (by decide) (by decide)]
  have hb : v / 2 ^ 32 < 2147483648 := by omega
  apply e32 hb
  have c := c_l2i (Int64.ofNat (v / 2 ^ 32)); rw [n64 (by omega)] at c
  have := Int32.toInt_lt (Int64.ofNat (v / 2 ^ 32)).toInt32; have := Int32.le_toInt (Int64.ofNat (v / 2 ^ 32)).toInt32
  omega
theorem l2i_sm {v : Nat} (h : v < 2147483648) : (Int64.ofNat v).toInt32 = Int32.ofNat v := by
  apply e32 h
  have c := c_l2i (Int64.ofNat v); rw [n64 (by omega)] at c
  have := Int32.toInt_lt (Int64.ofNat v).toInt32; have := Int32.le_toInt (Int64.ofNat v).toInt32
  omega
theorem l2i_ng {v : Nat} (h : v < 4294967296) (h' : ¬ v < 2147483648) : (Int64.ofNat v).toInt32 < 0 := by
  rw [XT.negI32]
  have c := c_l2i (Int64.ofNat v); rw [n64 (by omega)] at c
  have := Int32.toInt_lt (Int64.ofNat v).toInt32; have := Int32.le_toInt (Int64.ofNat v).toInt32
  omega
theorem is0 {i : Nat} (h : i < 2147483648) (q : Int32.ofNat i = 0) : i = 0 := by
  have := congrArg Int32.toInt q; rw [n32 h] at this; have e : (0 : Int32).toInt = 0 := rfl; omega
theorem not0 {i : Nat} (q : ¬ Int32.ofNat i = 0) : 0 < i := by
  apply Nat.pos_of_ne_zero; intro e; subst e; exact q rfl
theorem pos32 {i : Nat} (h : i < 2147483648) (q : 0 < i) : (0 : Int32) < Int32.ofNat i := (lt32 (i := 0) (by omega) h).mpr q
theorem nl_hi {v : Nat} (h : v < 9223372036854775808) (q : 0 < v / 2 ^ 32) : Int32.ofNat (31 - (v / 2 ^ 32).log2) = Int32.ofNat (nl v) := by
  have := log_div (i := v) (k := 32) (by omega)
  rw [nl, if_neg (by omega)]; congr 1; omega
theorem nl_lo {v : Nat} (h : v < 2147483648) (q : 0 < v) : (32 : Int32) + Int32.ofNat (31 - v.log2) = Int32.ofNat (nl v) := by
  have : v.log2 ≤ 30 := log_le (by omega)
  rw [show (32 : Int32) = Int32.ofNat 32 from rfl, add32 (by omega), nl, if_neg (by omega)]; congr 1; omega
theorem nl_mid {v : Nat} (h : v < 4294967296) (h' : ¬ v < 2147483648) : (32 : Int32) + (0 : Int32) = Int32.ofNat (nl v) := by
  have : v.log2 ≤ 31 := log_le (by omega)
  have : 31 ≤ v.log2 := le_log (by omega)
  rw [nl, if_neg (by omega), show v.log2 = 31 by omega]; rfl
/-- row and bucket, as add reckons them -/
theorem row_of {v : Nat} (h : v < 9223372036854775808) : (if (0 : Int32) < (((63 : Int32) - Int32.ofNat (nl v)) - (7 : Int32)) + (1 : Int32) then (((63 : Int32) - Int32.ofNat (nl v)) - (7 : Int32)) + (1 : Int32) else (0 : Int32)) = Int32.ofNat (Ky v / 128) := by
  have l : v.log2 ≤ 62 := log_le (by omega)
  have hn : nl v < 65 := by unfold nl; split <;> omega
  have hn2 : (nl v : Int) = if v = 0 then 64 else 63 - (v.log2 : Int) := by unfold nl; split <;> omega
  have a := c_isub 63 (Int32.ofNat (nl v)); rw [n32 (by omega), show (63 : Int32).toInt = 63 from rfl] at a
  have b := c_isub (63 - Int32.ofNat (nl v)) 7; rw [show (7 : Int32).toInt = 7 from rfl] at b
  have d := c_iadd (63 - Int32.ofNat (nl v) - 7) 1; rw [show (1 : Int32).toInt = 1 from rfl] at d
  have := Int32.toInt_lt (63 - Int32.ofNat (nl v)); have := Int32.le_toInt (63 - Int32.ofNat (nl v))
  have := Int32.toInt_lt (63 - Int32.ofNat (nl v) - 7); have := Int32.le_toInt (63 - Int32.ofNat (nl v) - 7)
  generalize 63 - Int32.ofNat (nl v) - 7 + 1 = t at *
  have := Int32.toInt_lt t; have := Int32.le_toInt t
  have hr := Ky_row (v := v)
  have z : (0 : Int32).toInt = 0 := rfl
  have h0 : v = 0 → v.log2 = 0 := fun q => by subst q; simp
  split
  · rename_i q; rw [Int32.lt_iff_toInt_lt, z] at q
    apply e32 (by omega); rw [hr]
    split at hn2
    · omega
    · omega
  · rename_i q; rw [Int32.lt_iff_toInt_lt, z] at q
    apply e32 (by omega); rw [hr, z]
    split at hn2
    · rename_i q0; rw [h0 q0]; rfl
    · omega
theorem bkt_of {v : Nat} (h : v < 9223372036854775808) : ((((Int64.ofNat v).toUInt64 >>> ((if (0 : Int32) < (Int32.ofNat (Ky v / 128)) - (1 : Int32) then (Int32.ofNat (Ky v / 128)) - (1 : Int32) else (0 : Int32)) &&& 0x3f).toInt64.toUInt64).toInt64).toInt32) &&& (127 : Int32) = Int32.ofNat (Ky v % 128) := by
  have hk := Ky_lt h
  have hr := Ky_row (v := v)
  have hsh : (if (0 : Int32) < (Int32.ofNat (Ky v / 128)) - (1 : Int32) then (Int32.ofNat (Ky v / 128)) - (1 : Int32) else (0 : Int32)) = Int32.ofNat (v.log2 - 7) := by
    have a := c_isub (Int32.ofNat (Ky v / 128)) 1; rw [n32 (by omega), show (1 : Int32).toInt = 1 from rfl] at a
    generalize Int32.ofNat (Ky v / 128) - 1 = t at *
    have := Int32.toInt_lt t; have := Int32.le_toInt t
    have z : (0 : Int32).toInt = 0 := rfl
    split
    · rename_i q; rw [Int32.lt_iff_toInt_lt, z] at q
      apply e32 (by omega); omega
    · rename_i q; rw [Int32.lt_iff_toInt_lt, z] at q
      apply e32 (by omega); rw [z]; omega
  rw [hsh]
  have lb : v.log2 ≤ 62 := log_le (by omega)
  have key : ((Int64.ofNat v).toUInt64 >>> ((Int32.ofNat (v.log2 - 7)) &&& 0x3f).toInt64.toUInt64).toInt64 = Int64.ofNat (v / 2 ^ (v.log2 - 7)) := by
    by_cases q : v.log2 - 7 = 0
    · rw [q, show ((Int32.ofNat 0) &&& 0x3f).toInt64.toUInt64 = (0 : UInt64) from by decide, show ((Int64.ofNat v).toUInt64 >>> (0 : UInt64)) = (Int64.ofNat v).toUInt64 from by simp]; simp
    · have hb : ∀ k : Fin 64, (Int32.ofNat k.val).toBitVec.toNat % 64 = k.val := by decide
      exact shr64 h _ _ (hb ⟨v.log2 - 7, by omega⟩) (by omega)
  rw [key]
  have hm := c_mask (Int64.ofNat (v / 2 ^ (v.log2 - 7))).toInt32 127 7 (by decide) (by decide)
  have c := c_l2i (Int64.ofNat (v / 2 ^ (v.log2 - 7)))
  have hq : v / 2 ^ (v.log2 - 7) < 9223372036854775808 := Nat.lt_of_le_of_lt (Nat.div_le_self _ _) h
  rw [n64 hq] at c
  apply e32 (by omega)
  rw [hm, Ky_bkt]
  generalize v / 2 ^ (v.log2 - 7) = t at *
  have : ((2 ^ 7 : Nat) : Int) = 128 := rfl
  omega
end Jvm.Own
namespace Jvm.Own
open Jvm Jvm.ClassFile Sem Op Lib Jvm.Free Jvm.Stand Jvm.LawKit Jvm.RoadKit
/-! the same layer where one String constant's entry is followed: lt = some (class, entry, object) once it is loaded; a second load makes nothing -/
def Lx (Z : State) (lt : Option Addr) (s : State) : Prop := (s.vm.interned.find? (fun p => p.1 == #[])).map Prod.snd = lt
theorem Lx.of_vm {Z : State} {lt : Option Addr} {s t : State} (h : Lx Z lt s) (e : t.vm = s.vm) : Lx Z lt t := by unfold Lx at h ⊢; rw [e]; exact h
theorem Lx.staysH {Z : State} {lt : Option Addr} {s : State} {vm' : Vm} (h : Lx Z lt s) (hW : s.WarmedH vm') : Lx Z lt (s.setVm vm') := by
  unfold Lx at h ⊢; rw [show (s.setVm vm').vm.interned = s.vm.interned from hW.interned_eq]; exact h
def Wl (Z : State) (p : Program) (l : Launch) (e : Env) (R : Room) (s : State) (m : MethodId) (args : Array Value) (below : List Frame) (meth : Method) (c : Code) (n0 : Nat) (Q : Option Value → Heap → Option Addr → Prop) (lt : Option Addr) (h : Heap) (k n : Nat) (g : JFrame) : Prop :=
  ∀ T L vm0, Stand p l e R (s.setVm vm0) m args below meth c T L k n → Bs true s vm0 h.size → T.heap = h → Fr n0 L → Lx Z lt (s.setVm vm0) →
    ∃ s₂ o, Steps p.tables e below (T.setTop g) s₂ ∧ s₂.status = .running ∧ Ended s₂ below o ∧ ∃ v L lt', o = .returned v ∧ (Q v s₂.heap lt' ∧ Fr n0 L) ∧ Lx Z lt' s₂ ∧ ReturnedEndW s o s₂ L R.cells R.slots
def MetL (l : Launch) (Z : State) (n0 : Nat) (y : MethodName) (bytes : ByteArray) (maxL : Nat) (ret : Option FieldType) (rm : Room) (as : Array Value) (lt : Option Addr) (h : Heap) (Q : Option Value → Heap → Option Addr → Prop) : Prop :=
  ∀ ws, MetFree l y (head1 (Cond.code y bytes maxL ret :: ws) rm) (fun a U => a = as ∧ Z.Warmed39 U.vm ∧ U.heap = h ∧ Lx Z lt U) (fun _ _ _ _ _ => True)
    (fun _ U o U' => ∃ v L lt', o = .returned v ∧ (Q v U'.heap lt' ∧ Fr n0 L) ∧ Lx Z lt' U' ∧ ReturnedEndW U o U' L rm.cells rm.slots)
theorem Met.toL {l : Launch} {Z : State} {n0 : Nat} {y : MethodName} {bytes : ByteArray} {maxL : Nat} {ret : Option FieldType} {rm : Room} {as : Array Value} {h : Heap} {Q : Option Value → Heap → Prop} (M : Met false l Z n0 y bytes maxL ret rm as h Q) (lt : Option Addr) : MetL l Z n0 y bytes maxL ret rm as lt h (fun v h' lt' => Q v h' ∧ lt' = lt) := by
  intro ws p e ha hc hk s m args below hf happ hP hK
  obtain ⟨q1, q2, q3, q4⟩ := hP
  obtain ⟨n, o, h1, h2, h3, v, L, h4, ⟨h5, h6⟩, h7⟩ := M ws p e ha hc hk s m args below hf happ ⟨q1, q2, q3⟩ hK
  have h8 : FrameEnd s o _ L rm.cells rm.slots := h7
  obtain ⟨g1, g2, g3⟩ := id h8
  refine ⟨n, o, h1, h2, h3, v, L, lt, h4, ⟨⟨h5, rfl⟩, h6⟩, ?_, RoadKit.wide h8⟩
  unfold Lx at q4 ⊢
  rw [g2.interned_eq]; exact q4
theorem MetL.of {l : Launch} {Z : State} {n0 : Nat} {y : MethodName} {bytes : ByteArray} {maxL : Nat} {ret : Option FieldType} {rm : Room} {as : Array Value} {lt : Option Addr} {h : Heap} {Q : Option Value → Heap → Option Addr → Prop}
    (hpn : plainFor y = true) (Ls : Array Slot) (hef : ∀ m, entryFrame m as maxL = mkF m 0 Ls [])
    (H : ∀ p e s m below meth c, Cx Z p s m meth c y bytes maxL ret → Wl Z p l e rm s m as below meth c n0 Q lt h 0 0 (mkF m 0 Ls [])) : MetL l Z n0 y bytes maxL ret rm as lt h Q := by
  intro ws
  refine MetFree.of_bodySF hpn hisR ?_
  intro p e s m args below meth c s₁ Bd hml0 hP hK
  obtain ⟨ha, hZ, hh, hl⟩ := hP
  have hown := findClass_of_methodNamed Bd.named
  have hnm := (name_of_methodNamed Bd.named Bd.method).1
  have e0 : s₁.heap = h := by rw [← hh, Bd.state]; rfl
  have X0 : Stand p l e rm s m args below meth c s₁ [] 0 0 := Stand.of_body Bd
  rw [ha] at X0 ⊢
  obtain ⟨s₂, o, h1, h2⟩ := H p e s m below meth c ⟨Bd.exec, Bd.bytes, hml0, hZ, hown, hnm, Bd.returns, Bd.notSynchronized⟩ s₁ [] s.vm X0 (Bs.start true s _) e0 (Fr.nil n0) (hl.of_vm rfl)
  exact ⟨s₂, o, castTop (hef m) h1, h2⟩
/-- .. where the body asks what the heap was at its start -/
theorem MetL.ofH {l : Launch} {Z : State} {n0 : Nat} {y : MethodName} {bytes : ByteArray} {maxL : Nat} {ret : Option FieldType} {rm : Room} {as : Array Value} {lt : Option Addr} {h : Heap} {Q : Option Value → Heap → Option Addr → Prop}
    (hpn : plainFor y = true) (Ls : Array Slot) (hef : ∀ m, entryFrame m as maxL = mkF m 0 Ls [])
    (H : ∀ p e s m below meth c, Cx Z p s m meth c y bytes maxL ret → s.heap = h → Wl Z p l e rm s m as below meth c n0 Q lt h 0 0 (mkF m 0 Ls [])) : MetL l Z n0 y bytes maxL ret rm as lt h Q := by
  intro ws
  refine MetFree.of_bodySF hpn hisR ?_
  intro p e s m args below meth c s₁ Bd hml0 hP hK
  obtain ⟨ha, hZ, hh, hl⟩ := hP
  have hown := findClass_of_methodNamed Bd.named
  have hnm := (name_of_methodNamed Bd.named Bd.method).1
  have e0 : s₁.heap = h := by rw [← hh, Bd.state]; rfl
  have X0 : Stand p l e rm s m args below meth c s₁ [] 0 0 := Stand.of_body Bd
  rw [ha] at X0 ⊢
  obtain ⟨s₂, o, h1, h2⟩ := H p e s m below meth c ⟨Bd.exec, Bd.bytes, hml0, hZ, hown, hnm, Bd.returns, Bd.notSynchronized⟩ hh s₁ [] s.vm X0 (Bs.start true s _) e0 (Fr.nil n0) (hl.of_vm rfl)
  exact ⟨s₂, o, castTop (hef m) h1, h2⟩
section Rules
variable {Z : State} {p : Program} {l : Launch} {e : Env} {R : Room} {s : State} {m : MethodId} {args : Array Value} {below : List Frame} {meth : Method} {c : Code} {y : MethodName} {bytes : ByteArray} {maxL : Nat} {ret : Option FieldType} {n0 : Nat} {Q : Option Value → Heap → Option Addr → Prop} {lt : Option Addr} {h : Heap} {k n : Nat} {g g' : JFrame} {a0 : Array Value}
theorem Wl.st (f : ∀ {T : State} {L : List Loc} {vm0 : Vm}, Stand p l e R (s.setVm vm0) m args below meth c T L k n → ∀ t, Steps p.tables e below (T.setTop g') t → Steps p.tables e below (T.setTop g) t)
    (H : Wl Z p l e R s m args below meth c n0 Q lt h k n g') : Wl Z p l e R s m args below meth c n0 Q lt h k n g := by
  intro T L vm0 X B eT N Lz
  obtain ⟨s₂, o, h1, h2⟩ := H T L vm0 X B eT N Lz
  exact ⟨s₂, o, f X _ h1, h2⟩
theorem Wl.stZ (C : Cx Z p s m meth c y bytes maxL ret) (f : ∀ {T : State} {L : List Loc} {vm0 : Vm}, Stand p l e R (s.setVm vm0) m args below meth c T L k n → Z.Warmed39 (s.setVm vm0).vm → (s.setVm vm0).vm.findClass y.cls = some m.cls → T.heap = h → ∃ T', Stand p l e R (s.setVm vm0) m args below meth c T' L k n ∧ T'.heap = h ∧ ∀ t, Steps p.tables e below (T'.setTop g') t → Steps p.tables e below (T.setTop g) t)
    (H : Wl Z p l e R s m args below meth c n0 Q lt h k n g') : Wl Z p l e R s m args below meth c n0 Q lt h k n g := by
  intro T L vm0 X B eT N Lz
  obtain ⟨T', X', e', st⟩ := f X (C.wZ B) (C.wo B) eT
  obtain ⟨s₂, o, h1, h2⟩ := H T' L vm0 X' B e' N Lz
  exact ⟨s₂, o, st _ h1, h2⟩
theorem Wl.ldcI (C : Cx Z p s m meth c y bytes maxL ret) {index : Nat} {v : Int32} (w : (Cond.constant y.cls index v).before a0 Z = true) {pc : Nat} {Ls : Array Slot} {st : List Value} (hd : decode bytes pc = .ok (.ldc index, 2))
    (H : Wl Z p l e R s m args below meth c n0 Q lt h k n (mkF m (pc + 2) Ls (.int v :: st))) : Wl Z p l e R s m args below meth c n0 Q lt h k n (mkF m pc Ls st) :=
  Wl.stZ C (fun X hZ ho eT => ⟨_, X, eT, fun t q => X.ldcI C.hx ho (mvT hZ w) rfl (hb C.hby hd) q⟩) H
theorem Wl.getS (C : Cx Z p s m meth c y bytes maxL ret) {O nm d : String} {index : Nat} (w : (Cond.fieldLink y.cls index O nm d).before a0 Z = true) {v : Value} (F : Sta Z h O nm d v) {pc : Nat} {Ls : Array Slot} {st : List Value} (hd : decode bytes pc = .ok (.getstatic index, 3))
    (H : Wl Z p l e R s m args below meth c n0 Q lt h k n (mkF m (pc + 3) Ls (v :: st))) : Wl Z p l e R s m args below meth c n0 Q lt h k n (mkF m pc Ls st) :=
  Wl.stZ C (fun X hZ ho eT => Jvm.RoadKit.getS (host := "") X C.hx hZ ho w Via.refl eT F (g := mkF m pc Ls st) rfl (hb C.hby hd)) H
theorem Wl.getF (C : Cx Z p s m meth c y bytes maxL ret) {R0 O nm d : String} {index : Nat} (w : (Cond.fieldLink y.cls index R0 nm d).before a0 Z = true) (via : Via Z R0 O nm d) {a : Addr} {v : Value} (F : Fld Z h a O nm d v) {pc : Nat} {Ls : Array Slot} {st : List Value} (hd : decode bytes pc = .ok (.getfield index, 3))
    (H : Wl Z p l e R s m args below meth c n0 Q lt h k n (mkF m (pc + 3) Ls (v :: st))) : Wl Z p l e R s m args below meth c n0 Q lt h k n (mkF m pc Ls (.ref a :: st)) :=
  Wl.stZ C (fun X hZ ho eT => Jvm.RoadKit.getF (host := "") X C.hx hZ ho (Or.inl w) via eT F (g := mkF m pc Ls (.ref a :: st)) rfl rfl (hb C.hby hd)) H
theorem Wl.fLdI (C : Cx Z p s m meth c y bytes maxL ret) {a : Addr} {N : Nat} {f : Nat → Value} {j : Int32} {v : Value} (F : Fa Z h a .int N f) {i : Nat} (hj : j.toNatClampNeg = i) (h0 : ¬ j < 0) (hi : i < N) (hv : f i = v) {pc : Nat} {Ls : Array Slot} {st : List Value} (hd : decode bytes pc = .ok (.iaload, 1))
    (H : Wl Z p l e R s m args below meth c n0 Q lt h k n (mkF m (pc + 1) Ls (v :: st))) : Wl Z p l e R s m args below meth c n0 Q lt h k n (mkF m pc Ls (.int j :: .ref a :: st)) := by
  subst hj
  obtain ⟨cl, A, S, -, Hs⟩ := F
  exact Wl.stZ C (fun X hZ ho eT => ⟨_, X, eT, X.iaload C.hx (by rw [eT]; exact A.1) (State.isArrayOf_alike hZ.alike A.2.1) A.2.2 (inb S h0 hi) (hv ▸ Hs _ hi) (g := mkF m pc Ls (.int j :: .ref a :: st)) rfl rfl (hb C.hby hd)⟩) H
theorem Wl.retV (C : Cx Z p s m meth c y bytes maxL ret) {pc : Nat} {Ls : Array Slot} {w : Value} {t : FieldType} {i : Instr} {rest : List Value} (ht : ret = some t) (hn : narrow t w = w)
    (hi : (i = .ireturn ∧ (t = .int ∨ t = .boolean ∨ t = .byte ∨ t = .char ∨ t = .short) ∧ ∃ z, w = .int z) ∨ (i = .lreturn ∧ t = .long ∧ ∃ z, w = .long z) ∨ (i = .dreturn ∧ t = .double ∧ ∃ z, w = .double z) ∨ (i = .freturn ∧ t = .float ∧ ∃ z, w = .float z) ∨ (i = .areturn ∧ t.isReference = true ∧ w.isRef = true))
    (hd : decode bytes pc = .ok (i, 1)) (hk : k ≤ R.cells) (hs : n ≤ R.slots) (hq : Q (some w) h lt) : Wl Z p l e R s m args below meth c n0 Q lt h k n (mkF m pc Ls (w :: rest)) := by
  intro T L vm0 X B eT N Lz
  have hlk := C.hlk
  have hv : meth.sig.returnType = none → (some w : Option Value) = none := fun h => by rw [C.hret, ht] at h; cases h
  obtain ⟨k0, hS, hk0⟩ := (B : ∃ k0, s.Since vm0 k0 ∧ k0 ≤ h.size)
  obtain ⟨fs, hr, hrun, hended, hE⟩ := X.leaveW hS (by rw [eT]; exact hk0) (v := some w) hv hlk
  refine ⟨_, _, retOut X C.hx (C.hret.trans ht) hn hi (hb C.hby hd) hr, hrun, hended, _, L, lt, rfl, ⟨?_, N⟩, (Lz.staysH X.warmed).of_vm rfl, hE.1, hE.2.1, hE.2.2.1, hE.2.2.2.mono hk hs⟩
  show Q (some w) T.heap lt
  rw [eT]; exact hq
theorem backL {y : MethodName} {bytes : ByteArray} {maxL : Nat} {ret : Option FieldType} {rm : Room} {len W : Nat} {as' : Array Value} {Q : Option Value → Heap → Option Addr → Prop}
    (hM : MetL l Z n0 y bytes maxL ret rm as' lt h Q) {vm0 : Vm} (hZ : Z.Warmed39 (s.setVm vm0).vm) (hl0 : Lx Z lt (s.setVm vm0)) (wc : (Cond.code y bytes maxL ret).before a0 Z = true) (wz : (Cond.initialized y.cls).before a0 Z = true) (hf : rm.frames + 1 ≤ R.frames) (hl : W + (maxL + 11) + rm.locals ≤ R.locals) :
    BackS l R p e below (s.setVm vm0) args y len W (fun A a => a = as' ∧ A.U.heap = h ∧ A.cells + rm.cells ≤ R.cells ∧ A.slots + rm.slots ≤ R.slots)
      (fun A _ v B => ∃ L lt', (Q v B.U.heap lt' ∧ Fr n0 L) ∧ Lx Z lt' B.U ∧ B.locs = A.locs ++ L ∧ B.cells = A.cells + rm.cells ∧ B.slots = A.slots + rm.slots) :=
  BackS.of_freeW (bytes := bytes) (maxL := maxL) (ret := ret) (E := fun _ _ o t L k n => k = rm.cells ∧ n = rm.slots ∧ ∃ v lt', o = .returned v ∧ (Q v t.heap lt' ∧ Fr n0 L) ∧ Lx Z lt' t) (hM []) hf hl
    (fun m meth c A a Y hp => have hU : Z.Warmed39 A.U.vm := wtrans hZ Y.warmed
      ⟨by show (Cond.and _ .tt).before a A.U = true; rw [Cond.before_and, mv hU wc]; rfl, mv hU wc, mv hU wz, hp.2.2.1, hp.2.2.2⟩)
    (fun m meth c A a g mk Y hp => ⟨hp.1, wtrans hZ Y.warmed, hp.2.1, (hl0.staysH Y.warmed).of_vm rfl⟩) (fun _ _ _ _ _ _ _ _ _ => trivial)
    (fun _ _ _ _ ⟨v, L, lt', h1, h2, h3, h4⟩ => ⟨L, _, _, h4, rfl, rfl, v, lt', h1, h2, h3⟩)
    (fun m meth c A a g mk v t L k n Y hp _ _ ⟨e1, e2, v', lt', e3, e4, e5⟩ => by cases e3; subst e1 e2; exact ⟨L, lt', e4, e5.of_vm rfl, rfl, rfl, rfl⟩)
theorem Wl.callS (C : Cx Z p s m meth c y bytes maxL ret) {z : MethodName} {index : Nat} {bz : ByteArray} {mz : Nat} {rz : Option FieldType} {rm : Room} {asL : List Value} {Qz : Option Value → Heap → Option Addr → Prop}
    (w1 : (Cond.methodLink y.cls index z).before a0 Z = true) (w2 : (Cond.static z).before a0 Z = true) (w3 : (Cond.initialized z.cls).before a0 Z = true) (w4 : (Cond.code z bz mz rz).before a0 Z = true)
    (hz : z.cls ≠ "java/lang/invoke/MethodHandle" ∧ z.cls ≠ "java/lang/invoke/VarHandle") (M : MetL l Z n0 z bz mz rz rm asL.toArray lt h Qz) {w : Nat} (hf : rm.frames + 1 ≤ R.frames) (hl : w + (mz + 11) + rm.locals ≤ R.locals)
    {ps : List FieldType} {r : Option FieldType} (hlen : parseMethodDescriptor z.desc = some ⟨ps, r⟩) (hps : asL.length = ps.length) {pc : Nat} {Ls : Array Slot} {st rest : List Value} (hls : Ls.size = maxL) (hst : st = asL.reverse ++ rest) (hw : (rest.map fun v => v.category).sum ≤ w)
    (hc : k + rm.cells ≤ R.cells) (hs : n + rm.slots ≤ R.slots) (hd : decode bytes pc = .ok (.invokestatic index, 3))
    (H : ∀ v h' lt', Qz v h' lt' → Wl Z p l e R s m args below meth c n0 Q lt' h' (k + rm.cells) (n + rm.slots) (mkF m (pc + 3) Ls (v.toList ++ rest))) : Wl Z p l e R s m args below meth c n0 Q lt h k n (mkF m pc Ls st) := by
  intro T L vm0 X B eT N Lz
  subst hst
  have hZ := C.wZ B
  have ho := C.wo B
  have hw' : 2 * (mkF m pc Ls (asL.reverse ++ rest)).monitorRoom + (rest.map fun v => v.category).sum ≤ w := by show 2 * 0 + _ ≤ _; omega
  obtain ⟨v, vm₁, ⟨T', L', k', n'⟩, -, X', hS', hgr, ⟨Lc, lt', hQ, hL, l1, y1, z1⟩, st⟩ := callSS X C.hx ho (mvT hZ w1) (mvT hZ w2) (mvT hZ w3) (mvT hZ w4) hz (backL (W := w) M hZ Lz w4 w3 hf hl) (g := mkF m pc Ls (asL.reverse ++ rest)) rfl (hls.trans C.hml.symm) (argsL := asL) (rest := rest) (lenOf hlen hps) rfl hw' (hb C.hby hd) (fun _ _ => ⟨rfl, eT, hc, hs⟩)
  dsimp only [Pt.U, Pt.locs, Pt.cells, Pt.slots] at X' hS' hgr l1 y1 z1 st hQ hL
  subst l1 y1 z1
  obtain ⟨k0, hS, hk0⟩ := (B : ∃ k0, s.Since vm0 k0 ∧ k0 ≤ h.size)
  obtain ⟨s₂, o, h1, h2⟩ := H v T'.heap lt' hQ.1 T' _ T'.vm X' ⟨_, foldS hS (by rw [eT]; exact hk0) hS' hgr, Nat.le_refl _⟩ rfl (N.app hQ.2) (hL.of_vm rfl)
  exact ⟨s₂, o, st.trans h1, h2⟩
theorem Wl.callV (C : Cx Z p s m meth c y bytes maxL ret) {x z : MethodName} {K : String} {index : Nat} {bz : ByteArray} {mz : Nat} {rz : Option FieldType} {rm : Room} {a : Addr} {asL : List Value} {Qz : Option Value → Heap → Option Addr → Prop}
    (w1 : (Cond.methodLink y.cls index x).before a0 Z = true) (w2 : (Cond.declares x).before a0 Z = true) (w5 : (Cond.selects K x z).before a0 Z = true) (w6 : (Cond.instanceMethod z).before a0 Z = true) (w3 : (Cond.initialized z.cls).before a0 Z = true) (w4 : (Cond.code z bz mz rz).before a0 Z = true)
    (hz : x.cls ≠ "java/lang/invoke/MethodHandle" ∧ x.cls ≠ "java/lang/invoke/VarHandle") (hnf : ∀ s' : State, Z.Warmed39 s'.vm → NotFace s' x) (E : Exa Z h a K) (M : MetL l Z n0 z bz mz rz rm (.ref a :: asL).toArray lt h Qz) {w : Nat} (hf : rm.frames + 1 ≤ R.frames) (hl : w + (mz + 11) + rm.locals ≤ R.locals)
    {ps : List FieldType} {r : Option FieldType} (hlen : parseMethodDescriptor x.desc = some ⟨ps, r⟩) (hps : asL.length = ps.length) {pc : Nat} {Ls : Array Slot} {st rest : List Value} (hls : Ls.size = maxL) (hst : st = asL.reverse ++ .ref a :: rest) (hw : (rest.map fun v => v.category).sum ≤ w)
    (hc : k + rm.cells ≤ R.cells) (hs : n + rm.slots ≤ R.slots) (hd : decode bytes pc = .ok (.invokevirtual index, 3))
    (H : ∀ v h' lt', Qz v h' lt' → Wl Z p l e R s m args below meth c n0 Q lt' h' (k + rm.cells) (n + rm.slots) (mkF m (pc + 3) Ls (v.toList ++ rest))) : Wl Z p l e R s m args below meth c n0 Q lt h k n (mkF m pc Ls st) := by
  intro T L vm0 X B eT N Lz
  subst hst
  have hZ := C.wZ B
  have ho := C.wo B
  have hw' : 2 * (mkF m pc Ls (asL.reverse ++ .ref a :: rest)).monitorRoom + (rest.map fun v => v.category).sum ≤ w := by show 2 * 0 + _ ≤ _; omega
  obtain ⟨cq, kq, qa, qb, qc⟩ := isOf hZ eT E
  obtain ⟨v, vm₁, ⟨T', L', k', n'⟩, -, X', hS', hgr, ⟨Lc, lt', hQ, hL, l1, y1, z1⟩, st⟩ := X.virtualBackS C.hx (y := x) (z := z) ho (mvT hZ w1) (mvT hZ w2) (hnf _ hZ) (mvT hZ w5) (mvT hZ w6) hz (backL (W := w) M hZ Lz w4 w3 hf hl) qa qc (g := mkF m pc Ls (asL.reverse ++ .ref a :: rest)) rfl (hls.trans C.hml.symm) (Steps.refl _) (argsL := asL) (rest := rest) (lenOf hlen hps) rfl hw' (hb C.hby hd) (fun _ _ => ⟨rfl, eT, hc, hs⟩)
  dsimp only [Pt.U, Pt.locs, Pt.cells, Pt.slots] at X' hS' hgr l1 y1 z1 st hQ hL
  subst l1 y1 z1
  obtain ⟨k0, hS, hk0⟩ := (B : ∃ k0, s.Since vm0 k0 ∧ k0 ≤ h.size)
  obtain ⟨s₂, o, h1, h2⟩ := H v T'.heap lt' hQ.1 T' _ T'.vm X' ⟨_, foldS hS (by rw [eT]; exact hk0) hS' hgr, Nat.le_refl _⟩ rfl (N.app hQ.2) (hL.of_vm rfl)
  exact ⟨s₂, o, st.trans h1, h2⟩
theorem Wl.callU (C : Cx Z p s m meth c y bytes maxL ret) {x z : MethodName} {K owner : String} {index : Nat} {bz : ByteArray} {mz : Nat} {rz : Option FieldType} {rm : Room} {a : Addr} {asL : List Value} {Qz : Option Value → Heap → Option Addr → Prop}
    (w1 : (Cond.methodLink y.cls index x).before a0 Z = true) (w7 : (Cond.sameMethod x.cls owner x.name x.desc).before a0 Z = true) (w2 : (Cond.declares ⟨owner, x.name, x.desc⟩).before a0 Z = true) (w5 : (Cond.selects K x z).before a0 Z = true) (w6 : (Cond.instanceMethod z).before a0 Z = true) (w3 : (Cond.initialized z.cls).before a0 Z = true) (w4 : (Cond.code z bz mz rz).before a0 Z = true)
    (hz : owner ≠ "java/lang/invoke/MethodHandle" ∧ owner ≠ "java/lang/invoke/VarHandle") (E : Exa Z h a K) (M : MetL l Z n0 z bz mz rz rm (.ref a :: asL).toArray lt h Qz) {w : Nat} (hf : rm.frames + 1 ≤ R.frames) (hl : w + (mz + 11) + rm.locals ≤ R.locals)
    {ps : List FieldType} {r : Option FieldType} (hlen : parseMethodDescriptor x.desc = some ⟨ps, r⟩) (hps : asL.length = ps.length) {pc : Nat} {Ls : Array Slot} {st rest : List Value} (hls : Ls.size = maxL) (hst : st = asL.reverse ++ .ref a :: rest) (hw : (rest.map fun v => v.category).sum ≤ w)
    (hc : k + rm.cells ≤ R.cells) (hs : n + rm.slots ≤ R.slots) (hd : decode bytes pc = .ok (.invokevirtual index, 3))
    (H : ∀ v h' lt', Qz v h' lt' → Wl Z p l e R s m args below meth c n0 Q lt' h' (k + rm.cells) (n + rm.slots) (mkF m (pc + 3) Ls (v.toList ++ rest))) : Wl Z p l e R s m args below meth c n0 Q lt h k n (mkF m pc Ls st) := by
  intro T L vm0 X B eT N Lz
  subst hst
  have hZ := C.wZ B
  have ho := C.wo B
  have hw' : 2 * (mkF m pc Ls (asL.reverse ++ .ref a :: rest)).monitorRoom + (rest.map fun v => v.category).sum ≤ w := by show 2 * 0 + _ ≤ _; omega
  obtain ⟨cq, kq, qa, qb, qc⟩ := isOf hZ eT E
  obtain ⟨v, vm₁, ⟨T', L', k', n'⟩, -, X', hS', hgr, ⟨Lc, lt', hQ, hL, l1, y1, z1⟩, st⟩ := X.virtualBackUpS C.hx (x := x) (y := z) ho (mvT hZ w1) (mvT hZ w7) (mvT hZ w2) hz (mvT hZ w5) (mvT hZ w6) (backL (W := w) M hZ Lz w4 w3 hf hl) qa qc (g := mkF m pc Ls (asL.reverse ++ .ref a :: rest)) rfl (hls.trans C.hml.symm) (Steps.refl _) (argsL := asL) (rest := rest) (lenOf hlen hps) rfl hw' (hb C.hby hd) (fun _ _ => ⟨rfl, eT, hc, hs⟩)
  dsimp only [Pt.U, Pt.locs, Pt.cells, Pt.slots] at X' hS' hgr l1 y1 z1 st hQ hL
  subst l1 y1 z1
  obtain ⟨k0, hS, hk0⟩ := (B : ∃ k0, s.Since vm0 k0 ∧ k0 ≤ h.size)
  obtain ⟨s₂, o, h1, h2⟩ := H v T'.heap lt' hQ.1 T' _ T'.vm X' ⟨_, foldS hS (by rw [eT]; exact hk0) hS' hgr, Nat.le_refl _⟩ rfl (N.app hQ.2) (hL.of_vm rfl)
  exact ⟨s₂, o, st.trans h1, h2⟩
theorem Wl.newO (C : Cx Z p s m meth c y bytes maxL ret) {K : String} {index sz : Nat} (w : (Cond.classLink y.cls index K).before a0 Z = true) (wi : (Cond.instantiable K sz).before a0 Z = true) (wz : (Cond.initialized K).before a0 Z = true) {pc : Nat} {Ls : Array Slot} {st : List Value} (hd : decode bytes pc = .ok (.new index, 3)) (hc : k + 1 ≤ R.cells) (hl : n + sz ≤ R.slots)
    (H : ∀ h' a, a = h.size → Ext h h' → Exa Z h' a K → (∀ {O nm d : String} {ty : FieldType}, Laid Z a0 K O nm d → parseFieldDescriptor d = some ty → Fld Z h' a O nm d (defaultValue ty)) → Wl Z p l e R s m args below meth c n0 Q lt h' (k + 1) (n + sz) (mkF m (pc + 3) Ls (.ref a :: st))) :
    Wl Z p l e R s m args below meth c n0 Q lt h k n (mkF m pc Ls st) := by
  intro T L vm0 X B eT N Lz
  obtain ⟨T', h', X', e', E, A, D, -, st⟩ := Jvm.RoadKit.newO X C.hx (C.wZ B) (C.wo B) w wi wz eT (g := mkF m pc Ls st) rfl (hb C.hby hd) hc hl
  obtain ⟨s₂, o, h1, h2⟩ := H h' _ rfl E A D T' L vm0 X' (B.mono E.1) e' N Lz
  exact ⟨s₂, o, st _ h1, h2⟩
theorem Wl.fNewP (C : Cx Z p s m meth c y bytes maxL ret) {aty : ArrayType} {ty : FieldType} {N : Nat} (w : (Cond.arrayClass (newarray.typeOf aty)).before a0 Z = true) {z : Int32} {dv : Value} {ad : String} (hty : newarray.typeOf aty = ty) (hdv : defaultValue ty = dv) (hN : z.toNatClampNeg = N) (had : "[" ++ (newarray.typeOf aty).toString = ad) (hz : ¬ z < 0) {cap : Nat} (hcap : N ≤ cap) (hbig : cap * 8 ≤ 536870912) {pc : Nat} {Ls : Array Slot} {st : List Value} (hd : decode bytes pc = .ok (.newarray aty, 2)) (hc : k + 1 ≤ R.cells) (hl : n + cap ≤ R.slots)
    (H : ∀ h' a, a = h.size → Ext h h' → Exa Z h' a ad → Fa Z h' a ty N (fun _ => dv) → Wl Z p l e R s m args below meth c n0 Q lt h' (k + 1) (n + cap) (mkF m (pc + 2) Ls (.ref a :: st))) :
    Wl Z p l e R s m args below meth c n0 Q lt h k n (mkF m pc Ls (.int z :: st)) := by
  intro T L vm0 X B eT Nn Lz
  subst hty hdv hN
  obtain ⟨T', h', cA, X', e', E, A, Ex, st⟩ := Jvm.RoadKit.newPE X C.hx (C.wZ B) w eT (g := mkF m pc Ls (.int z :: st)) rfl (hb C.hby hd) rfl hz hcap hbig hc hl had
  obtain ⟨s₂, o, h1, h2⟩ := H h' _ rfl E Ex (Fa.new A) T' L vm0 X' (B.mono E.1) e' Nn Lz
  exact ⟨s₂, o, st _ h1, h2⟩
theorem Wl.fLen (C : Cx Z p s m meth c y bytes maxL ret) {a : Addr} {ty : FieldType} {N : Nat} {f : Nat → Value} (F : Fa Z h a ty N f) {z : Int32} (hz : N.toInt32 = z) {pc : Nat} {Ls : Array Slot} {st : List Value} (hd : decode bytes pc = .ok (.arraylength, 1))
    (H : Wl Z p l e R s m args below meth c n0 Q lt h k n (mkF m (pc + 1) Ls (.int z :: st))) : Wl Z p l e R s m args below meth c n0 Q lt h k n (mkF m pc Ls (.ref a :: st)) := by
  obtain ⟨cl, A, S, -⟩ := F
  exact Wl.stZ C (fun X hZ ho eT => ⟨_, X, eT, by rw [← hz, ← S]; exact X.arraylength C.hx (by rw [eT]; exact A.1) (State.isArrayOf_alike hZ.alike A.2.1) (g := mkF m pc Ls (.ref a :: st)) rfl rfl (hb C.hby hd)⟩) H
theorem Wl.retN0 (C : Cx Z p s m meth c y bytes maxL ret) {pc : Nat} {Ls : Array Slot} (ht : ret = none) (hd : decode bytes pc = .ok (.return_, 1)) (hk : k ≤ R.cells) (hs : n ≤ R.slots) (hq : Q none h lt) : Wl Z p l e R s m args below meth c n0 Q lt h k n (mkF m pc Ls []) := by
  intro T L vm0 X B eT N Lz
  have hlk := C.hlk
  have hv : meth.sig.returnType = none → (none : Option Value) = none := fun _ => rfl
  obtain ⟨k0, hS, hk0⟩ := (B : ∃ k0, s.Since vm0 k0 ∧ k0 ≤ h.size)
  obtain ⟨fs, hr, hrun, hended, hE⟩ := X.leaveW hS (by rw [eT]; exact hk0) (v := none) hv hlk
  refine ⟨_, _, X.returnOut C.hx (C.hret.trans ht) (hb C.hby hd) hr, hrun, hended, _, L, lt, rfl, ⟨?_, N⟩, (Lz.staysH X.warmed).of_vm rfl, hE.1, hE.2.1, hE.2.2.1, hE.2.2.2.mono hk hs⟩
  show Q none T.heap lt
  rw [eT]; exact hq
theorem Wl.callI (C : Cx Z p s m meth c y bytes maxL ret) {z : MethodName} {index : Nat} {bz : ByteArray} {mz : Nat} {rm : Room} {a : Addr} {asL : List Value} {Qz : Option Value → Heap → Option Addr → Prop} (hz1 : z.name = "<init>")
    (w1 : (Cond.methodLink y.cls index z).before a0 Z = true) (w2 : (Cond.instanceMethod z).before a0 Z = true) (w3 : (Cond.initialized z.cls).before a0 Z = true) (w4 : (Cond.code z bz mz none).before a0 Z = true)
    (hz : z.cls ≠ "java/lang/invoke/MethodHandle" ∧ z.cls ≠ "java/lang/invoke/VarHandle") (M : MetL l Z n0 z bz mz none rm (.ref a :: asL).toArray lt h Qz) {w : Nat} (hf : rm.frames + 1 ≤ R.frames) (hl : w + (mz + 11) + rm.locals ≤ R.locals)
    {ps : List FieldType} {r : Option FieldType} (hlen : parseMethodDescriptor z.desc = some ⟨ps, r⟩) (hps : asL.length = ps.length) {pc : Nat} {Ls : Array Slot} {st rest : List Value} (hls : Ls.size = maxL) (hst : st = asL.reverse ++ .ref a :: rest) (hw : (rest.map fun v => v.category).sum ≤ w)
    (hc : k + rm.cells ≤ R.cells) (hs : n + rm.slots ≤ R.slots) (hd : decode bytes pc = .ok (.invokespecial index, 3))
    (H : ∀ v h' lt', Qz v h' lt' → Wl Z p l e R s m args below meth c n0 Q lt' h' (k + rm.cells) (n + rm.slots) (mkF m (pc + 3) Ls (v.toList ++ rest))) : Wl Z p l e R s m args below meth c n0 Q lt h k n (mkF m pc Ls st) := by
  intro T L vm0 X B eT N Lz
  subst hst
  have hZ := C.wZ B
  have ho := C.wo B
  have hw' : 2 * (mkF m pc Ls (asL.reverse ++ .ref a :: rest)).monitorRoom + (rest.map fun v => v.category).sum ≤ w := by show 2 * 0 + _ ≤ _; omega
  obtain ⟨v, vm₁, ⟨T', L', k', n'⟩, -, X', hS', hgr, ⟨Lc, lt', hQ, hL, l1, y1, z1⟩, st⟩ := X.specialBackS C.hx hz1 ho (mvT hZ w1) (mvT hZ w2) (mvT hZ w4) hz (backL (W := w) M hZ Lz w4 w3 hf hl) (g := mkF m pc Ls (asL.reverse ++ .ref a :: rest)) rfl (hls.trans C.hml.symm) (Steps.refl _) (a := a) (argsL := asL) (rest := rest) (lenOf hlen hps) rfl hw' (hb C.hby hd) (fun _ _ => ⟨rfl, eT, hc, hs⟩)
  dsimp only [Pt.U, Pt.locs, Pt.cells, Pt.slots] at X' hS' hgr l1 y1 z1 st hQ hL
  subst l1 y1 z1
  obtain ⟨k0, hS, hk0⟩ := (B : ∃ k0, s.Since vm0 k0 ∧ k0 ≤ h.size)
  obtain ⟨s₂, o, h1, h2⟩ := H v T'.heap lt' hQ.1 T' _ T'.vm X' ⟨_, foldS hS (by rw [eT]; exact hk0) hS' hgr, Nat.le_refl _⟩ rfl (N.app hQ.2) (hL.of_vm rfl)
  exact ⟨s₂, o, st.trans h1, h2⟩
end Rules
end Jvm.Own
namespace Jvm.Own
open Jvm Jvm.ClassFile Sem Op Lib Jvm.Free Jvm.Stand Jvm.LawKit Jvm.RoadKit
/-! the empty String in the heap, in my facts and in the library's bundle -/
theorem sb0 : stringBytes #[] = #[] := by rw [SBG.stringBytes_lat (by simp)]; simp
def StrE (Z : State) (h : Heap) (a va : Addr) : Prop :=
  Exa Z h a "java/lang/String" ∧ Fld Z h a "java/lang/String" "value" "[B" (.ref va) ∧ Fld Z h a "java/lang/String" "coder" "B" (.int 0) ∧ Fa Z h va .byte 0 (fun _ => .int 0) ∧ Exa Z h va "[B" ∧ a ≠ va
theorem sl_of {Z W : State} {h : Heap} {a va : Addr} {a0 : Array Value} (hal : Z.vm.Alike W.vm) (hh : W.heap = h) (wi : (Cond.instantiable "java/lang/String" 4).before a0 Z = true) (S : StrE Z h a va) : SlOf W a #[] := by
  obtain ⟨E, FV, FC, ⟨SA, A, Ssz, -, -⟩, EB, hne⟩ := S
  obtain ⟨cE, kE, x1, x2, x3, x4, x5⟩ := E
  obtain ⟨cI, kI, hfI, hkI, hkindI, -⟩ := Cond.instantiable_spec wi
  have hfI' : Z.vm.findClass "java/lang/String" = some cI := hfI
  have hkI' : Z.vm.classes[cI]? = some kI := hkI
  cases x2.symm.trans hfI'
  cases x3.symm.trans hkI'
  obtain ⟨cell1, cf1, kf1, i1, fc, g1, g2, g3, g4, g5, g6, g7⟩ := FC
  obtain ⟨cell2, cf2, kf2, i2, fv, v1, v2, v3, v4, v5, v6, v7⟩ := FV
  cases g1.symm.trans v1
  cases g1.symm.trans x1
  obtain ⟨cB, kB, y1, y2, y3, y4, y5⟩ := EB
  cases y1.symm.trans A.1
  have base : SlOf { Z with heap := h } a #[] := by
    refine ⟨(a, _, fv, fc, va, SA, 0), _, rfl, ⟨⟨g1, g4, g5, ⟨cf2, kf2, i2, v2, v6⟩, ⟨cf1, kf1, i1, g2, g6⟩, v3, g3, v7, g7, A.1, A.2.1, A.2.2, Ssz, show (0 : Nat) < 2 ^ 31 by decide, hne, fun j hj => absurd (Ssz ▸ hj : j < 0) (Nat.not_lt_zero _)⟩, x2, rfl⟩, ⟨kE, x3, hkindI, x5 hkindI⟩, y2, ?_⟩
    show SA.slots = stringBytes #[]
    exact (Array.eq_empty_of_size_eq_zero Ssz).trans sb0.symm
  exact base.moved (W := W) hal (fun b c q => by rw [hh]; exact q)
theorem of_sl {Z W : State} {lo hi : Nat} {a : Addr} {units : Array UInt16} (hal : Z.vm.Alike W.vm) (hu : units = #[]) (S : SlIn lo hi W a units) : ∃ va, StrE Z W.heap a va ∧ ((a < lo ∧ va < lo) ∨ (hi ≤ a ∧ hi ≤ va)) := by
  subst hu
  obtain ⟨q, cS, hqa, ⟨⟨s1, s2, s3, ⟨cv, kv, iv, s4, s4'⟩, ⟨cc, kc, ic, s5, s5'⟩, s6, s7, s8, s9, s10, s11, s12, s13, s14, s15, s16⟩, hfS, hcS⟩, ⟨kS, k1, k2, k3⟩, hB, hbyt, hpl⟩ := S
  subst hqa
  obtain ⟨kv', z4⟩ := ff_back hal s4
  obtain ⟨kc', z5⟩ := ff_back hal s5
  have hfZ : Z.vm.findClass "java/lang/String" = some q.sC.cls := by rw [← hal.findClass, hcS]; exact hfS
  obtain ⟨kz, hkz, -⟩ := Vm.findClass_spec hfZ
  obtain ⟨kz', hkz', ekz⟩ := hal.2.2 _ _ hkz
  have ekS : kz' = kS := Option.some.inj (hkz'.symm.trans (hcS ▸ k1))
  have hBZ : Z.vm.findClass "[B" = some q.SA.cls := by rw [← hal.findClass]; exact hB
  obtain ⟨kb, hkb, -⟩ := Vm.findClass_spec hBZ
  obtain ⟨kb', hkb', ekb⟩ := hal.2.2 _ _ hkb
  obtain ⟨hst, k9, hk9, comp, hkind9⟩ := s11
  have ek9 : k9 = kb' := Option.some.inj (hk9.symm.trans hkb')
  have hAZ : Z.isArrayOf q.SA .byte := ⟨hst, kb, hkb, comp, by rw [ek9, ekb] at hkind9; exact hkind9⟩
  have hsz : q.SA.slots.size = 0 := by rw [hbyt, sb0]; rfl
  refine ⟨q.sd, ⟨⟨q.sC, kz, s1, hfZ, hkz, s3, fun hk => ?_⟩, ⟨q.sC, cv, kv', iv, q.fSV, s1, z4, s6, s2, s3, by rw [← hal.assignable]; exact s4', s8⟩, ⟨q.sC, cc, kc', ic, q.fSC, s1, z5, s7, s2, s3, by rw [← hal.assignable]; exact s5', s9⟩, ⟨q.SA, ⟨s10, hAZ, s12⟩, hsz, by decide, fun i hi => absurd hi (Nat.not_lt_zero _)⟩, ⟨q.SA, kb, s10, hBZ, hkb, ?_, fun hk => ?_⟩, s15⟩, hpl⟩
  · rw [k3, ← ekS, ekz]
  · cases hq : q.SA.vm.isStatics with
    | false => rfl
    | true => exfalso; revert hq; cases hv : q.SA.vm <;> simp [VmData.isStatics]; exact hst _ hv
  · rw [ek9, ekb] at hkind9; rw [show kb.kind = .array comp .byte from hkind9] at hk; cases hk
end Jvm.Own
namespace Jvm.Own
open Jvm Jvm.ClassFile Sem Op Lib Jvm.Free Jvm.Stand Jvm.LawKit Jvm.RoadKit
/-! loading "" in the wide layer of KitN -/
theorem units0 {units : Array UInt16} (h : utf16ToString? units = some "") : units = #[] := by
  have := Jvm.ClassFile.units_of_text h (fun c hc => by simp at hc)
  exact Array.toList_inj.mp (this.trans (by simp))
theorem heldNow {Z s : State} {vm0 : Vm} {own : String} {index : Nat} {a0 : Array Value} (hW : Z.Warmed39 vm0) (w : (Cond.stringLink own index "").before a0 Z = true) (hkeep : ∀ (b : Addr) (cl : Cell), Z.heap[b]? = some cl → s.heap[b]? = some cl) (hH : ConstHeldL Z own index)
    (hF : ∀ a, vm0.interned.find? (fun p => p.1 == #[]) = some (#[], a) → SlOf (s.setVm vm0) a #[] ∨ Z.vm.interned.find? (fun p => p.1 == #[]) = some (#[], a)) : ConstHeldL (s.setVm vm0) own index := by
  intro c k' cf i units a hc' hk' hcf' hp hu hor
  have hal : Z.vm.Alike vm0 := hW.alike
  have hc : Z.vm.findClass own = some c := by rw [← hal.findClass]; exact hc'
  obtain ⟨k, cf0, i0, units0', hk, hcf, hp0, hu0, hnm, htext, hopen⟩ := Cond.stringLink_spec hc w
  obtain ⟨k'', hk'', hke, -, ee, -⟩ := hW.2.2.2 c k hk
  cases (show vm0.classes[c]? = some k' from hk').symm.trans hk''
  have hcfk : k'.cf = k.cf := by rw [hke]
  cases (hcfk ▸ hcf').symm.trans hcf
  cases hp.symm.trans hp0
  cases hu.symm.trans hu0
  have hu0' := units0 htext
  subst hu0'
  rcases ee index with e0 | ⟨hop, r, e1, hr | ⟨a3, t, si, us, rfl, -, q3, q4, q5⟩⟩
  · rcases hor with h0 | ⟨h0, hf⟩
    · exact (hH c k cf i #[] a hc hk hcf hp hu (Or.inl (e0 ▸ h0))).moved (W := s.setVm vm0) hal hkeep
    · rcases hF a hf with q | q
      · exact q
      · exact (hH c k cf i #[] a hc hk hcf hp hu (Or.inr ⟨e0 ▸ h0, q⟩)).moved (W := s.setVm vm0) hal hkeep
  · exfalso
    rcases hor with h0 | ⟨h0, -⟩
    · have er : r = .string a := by have := e1.symm.trans h0; simpa using this
      subst er
      simp [State.rightAt, hk, hcf, hnm] at hr
    · have := e1.symm.trans h0; simp at this
  · rw [hcf] at q3 q4
    have e3 : si = i := by
      have := q3.symm.trans hp
      simpa using this
    subst e3
    have e4 : us = #[] := by simpa [ConstantPool.utf8?, hu] using q4.symm
    subst e4
    rcases hor with h0 | ⟨h0, -⟩
    · have ea : a3 = a := by have := e1.symm.trans h0; simpa using this
      subst ea
      rcases hF a3 q5 with q | q
      · exact q
      · exact (hH c k cf si #[] a3 hc hk hcf hp hu (Or.inr ⟨hop, q⟩)).moved (W := s.setVm vm0) hal hkeep
    · have := e1.symm.trans h0; simp at this
theorem lx_find {Z : State} {a : Addr} (h : Lx Z (some a) Z) : Z.vm.interned.find? (fun p => p.1 == #[]) = some (#[], a) := by
  unfold Lx at h
  cases hq : Z.vm.interned.find? (fun p => p.1 == #[]) with
  | none => rw [hq] at h; cases h
  | some p =>
    rw [hq] at h
    have e1 : p.2 = a := by simpa using h
    have e2 : p.1 = #[] := by first | (have := Array.find?_some hq; simpa using this) | (have := List.find?_some hq; simpa using this)
    rw [← e1, ← e2]
/-- what is known of the entry for "": my facts hold of it, or it was there at the start -/
def LtOk (Z : State) (h : Heap) (lt : Option Addr) : Prop := ∀ a, lt = some a → (∃ va, StrE Z h a va) ∨ Lx Z (some a) Z
theorem LtOk.start (Z : State) (h : Heap) {lt : Option Addr} (q : Lx Z lt Z) : LtOk Z h lt := fun a e => Or.inr (e ▸ q)
section Rules
variable {Z : State} {p : Program} {l : Launch} {e : Env} {R : Room} {s : State} {m : MethodId} {args : Array Value} {below : List Frame} {meth : Method} {c : Code} {y : MethodName} {bytes : ByteArray} {maxL : Nat} {ret : Option FieldType} {n0 : Nat} {Q : Option Value → Heap → Option Addr → Prop} {lt : Option Addr} {h h0 : Heap} {k n : Nat} {g g' : JFrame} {a0 : Array Value}
theorem Wl.ldcE (C : Cx Z p s m meth c y bytes maxL ret) (hs : s.heap = h0) (hk0 : ∀ (b : Addr) (cl : Cell), h0[b]? = some cl → h[b]? = some cl) (hZk : ∀ (b : Addr) (cl : Cell), Z.heap[b]? = some cl → h0[b]? = some cl) {index : Nat} (w : (Cond.stringLink y.cls index "").before a0 Z = true) (wS : ∀ d ∈ Bundle.stringAtoms, d.before a0 Z = true) (wi : (Cond.instantiable "java/lang/String" 4).before a0 Z = true)
    (hheld : ConstHeldL Z y.cls index) (hE : LtOk Z h0 lt) {pc : Nat} {Ls : Array Slot} {st : List Value} (hd : decode bytes pc = .ok (.ldc index, 2)) (hc : k + 2 ≤ R.cells) (hl : n + (0 + 4) ≤ R.slots)
    (H : ∀ h' a va lt', Ext h h' → StrE Z h' a va → (lt' = lt ∨ lt' = some a) → ((a < h0.size ∧ va < h0.size) ∨ (h.size ≤ a ∧ h.size ≤ va)) → Wl Z p l e R s m args below meth c n0 Q lt' h' (k + 2) (n + (0 + 4)) (mkF m (pc + 2) Ls (.ref a :: st))) : Wl Z p l e R s m args below meth c n0 Q lt h k n (mkF m pc Ls st) := by
  intro T L vm0 X B eT N Lz
  have hZ := C.wZ B
  have ho := C.wo B
  obtain ⟨k0, hS, hk0'⟩ := (B : ∃ k0, s.Since vm0 k0 ∧ k0 ≤ h.size)
  have hal : Z.vm.Alike vm0 := State.Warmed39.alike hZ
  have hF : ∀ a, vm0.interned.find? (fun p => p.1 == #[]) = some (#[], a) → SlOf (s.setVm vm0) a #[] ∨ Z.vm.interned.find? (fun p => p.1 == #[]) = some (#[], a) := fun a q => by
    have e : lt = some a := by
      unfold Lx at Lz
      rw [show (s.setVm vm0).vm.interned = vm0.interned from rfl, q] at Lz; exact Lz.symm
    rcases hE a e with ⟨va, S⟩ | S
    · exact Or.inl (sl_of (W := s.setVm vm0) hal hs wi S)
    · exact Or.inr (lx_find S)
  have hH := heldNow (s := s) hZ w (fun b cl q => by rw [hs]; exact hZk b cl q) hheld hF
  have hold : ∀ (b : Addr) (cl : Cell), (s.setVm vm0).heap[b]? = some cl → T.heap[b]? = some cl := fun b cl q => by
    rw [eT]; exact hk0 b cl (by rw [← hs]; exact q)
  obtain ⟨kc, cf, i, units, g1, g2, g3, g4, g5, g6, g7⟩ := Cond.stringLink_spec (s := s.setVm vm0) ho (mvS (args := #[]) hZ w)
  have hu := units0 g6
  subst hu
  rcases g7 with hop | ⟨a, hre⟩
  · obtain ⟨a, T', X', hS', ⟨kk, hkk, hrr⟩, hbb, -, hint, ⟨units, htext, hin⟩, st⟩ := X.ldcColdF hold C.hx (own := y.cls) ho (mvS hZ w) (fun d hd => by
      have q := wS d hd
      simp only [Bundle.stringAtoms, List.mem_cons, List.not_mem_nil, or_false] at hd
      rcases hd with rfl | rfl | rfl | rfl | rfl | rfl | rfl
      · exact mv hZ q
      · exact mv hZ q
      · exact mvA hZ q
      · exact mv hZ q
      · exact mv hZ q
      · exact mv hZ q
      · exact mv hZ q) hH (fun units hu => by rw [units0 hu]; simp) (g := mkF m pc Ls st) rfl (hb C.hby hd) (n := 0) (by decide) (by decide) hc hl
    have hu := units0 htext
    subst eT
    have E := ext_of hbb
    have hal' : Z.vm.Alike T'.vm := hal.trans hS'.1.alike
    obtain ⟨va, S, pl⟩ := of_sl (Z := Z) hal' hu hin
    have hlt : Lx Z (some a) (s.setVm T'.vm) := by
      obtain ⟨k'', hk'', hke, -, ee, -⟩ := hS'.1.2.2.2 m.cls kc g1
      cases hkk.symm.trans hk''
      rcases ee index with e0 | ⟨hop', r, e1, hr | ⟨a3, t, si, us, rfl, -, q3, q4, q5⟩⟩
      · have := e0.symm.trans hrr; rw [hop] at this; simp at this
      · have er : r = .string a := by have := e1.symm.trans hrr; simpa using this
        subst er
        simp [State.rightAt, g1, g2, g5] at hr
      · have ea : a3 = a := by have := e1.symm.trans hrr; simpa using this
        subst ea
        rw [g2] at q3 q4
        have e3 : si = i := by
          have := q3.symm.trans g3
          simpa using this
        subst e3
        have e4 : us = #[] := by simpa [ConstantPool.utf8?, g4] using q4.symm
        subst e4
        unfold Lx
        rw [show (s.setVm T'.vm).vm.interned = T'.vm.interned from rfl, q5]; rfl
    obtain ⟨s₂, o, h1, h2⟩ := H T'.heap a va (some a) E S (Or.inr rfl) (by
      rcases pl with pl | pl
      · exact Or.inl (by rw [← hs]; exact pl)
      · exact Or.inr pl) T' L T'.vm X' ⟨_, hS.trans hS' (Nat.le_trans hk0' E.1), Nat.le_refl _⟩ rfl N hlt
    exact ⟨s₂, o, st _ h1, h2⟩
  · have hL : Lit (s.setVm vm0) y.cls index a := by
      have ho' : vm0.findClass y.cls = some m.cls := ho
      have g1' : vm0.classes[m.cls]? = some kc := g1
      simp [Lit, State.resolvedAt?, ho', g1', hre]
    have hSl : SlOf (s.setVm vm0) a #[] := hH m.cls kc cf i #[] a ho g1 g2 g3 g4 (Or.inl hre)
    have hin := hSl.movedIn (W := T) h.size (State.WarmedH.alike X.warmed) hold
    obtain ⟨va, S, pl⟩ := of_sl (Z := Z) (hal.trans (State.WarmedH.alike X.warmed)) rfl hin
    rw [eT] at S
    obtain ⟨s₂, o, h1, h2⟩ := (H h a va lt (ext_refl h) S (Or.inl rfl) (by
      rcases pl with pl | pl
      · exact Or.inl (by rw [← hs]; exact pl)
      · exact Or.inr pl)) T L vm0 (X.more (Nat.le_add_right _ _) (Nat.le_add_right _ _)) ⟨k0, hS, hk0'⟩ eT N Lz
    exact ⟨s₂, o, ldcAgain X C.hx hZ ho w hL (g := mkF m pc Ls st) rfl (hb C.hby hd) _ h1, h2⟩
end Rules
end Jvm.Own
namespace Jvm.Own
open Jvm Jvm.ClassFile Sem Op Lib Jvm.Free Jvm.Stand Jvm.LawKit Jvm.RoadKit
/-! short rules for loads and constants: the frame is not written out -/
section
variable {W : Bool} {Z : State} {p : Program} {l : Launch} {e : Env} {R : Room} {s : State} {m : MethodId} {args : Array Value} {below : List Frame} {meth : Method} {c : Code} {y : MethodName} {bytes : ByteArray} {maxL : Nat} {ret : Option FieldType} {n0 : Nat} {Q : Option Value → Heap → Prop} {h : Heap} {k n : Nat} {pc : Nat} {Ls : Array Slot} {st : List Value} {v : Value} {x : Int32}
theorem Wk.ald (C : Cx Z p s m meth c y bytes maxL ret) {j : Fin 4} (hd : decode bytes pc = .ok (.aload_n j, 1)) (hv : Ls[j.val]? = some (.val v)) (hr : v.isRef = true) (H : Wk W p l e R s m args below meth c n0 Q h k n (mkF m (pc + 1) Ls (v :: st))) : Wk W p l e R s m args below meth c n0 Q h k n (mkF m pc Ls st) :=
  Wk.st (fun X t q => XS.aloadN X.here C.hx rfl (hb C.hby hd) hv hr q) H
theorem Wk.aldW (C : Cx Z p s m meth c y bytes maxL ret) {j : Nat} (hd : decode bytes pc = .ok (.aload j, 2)) (hv : Ls[j]? = some (.val v)) (hr : v.isRef = true) (H : Wk W p l e R s m args below meth c n0 Q h k n (mkF m (pc + 2) Ls (v :: st))) : Wk W p l e R s m args below meth c n0 Q h k n (mkF m pc Ls st) :=
  Wk.st (fun X t q => XS.aload X.here C.hx rfl (hb C.hby hd) hv hr q) H
theorem Wk.ild (C : Cx Z p s m meth c y bytes maxL ret) {j : Fin 4} (hd : decode bytes pc = .ok (.iload_n j, 1)) (hv : Ls[j.val]? = some (.val (.int x))) (H : Wk W p l e R s m args below meth c n0 Q h k n (mkF m (pc + 1) Ls (.int x :: st))) : Wk W p l e R s m args below meth c n0 Q h k n (mkF m pc Ls st) :=
  Wk.st (fun X t q => XS.iloadN X.here C.hx rfl (hb C.hby hd) hv q) H
theorem Wk.ildW (C : Cx Z p s m meth c y bytes maxL ret) {j : Nat} (hd : decode bytes pc = .ok (.iload j, 2)) (hv : Ls[j]? = some (.val (.int x))) (H : Wk W p l e R s m args below meth c n0 Q h k n (mkF m (pc + 2) Ls (.int x :: st))) : Wk W p l e R s m args below meth c n0 Q h k n (mkF m pc Ls st) :=
  Wk.st (fun X t q => XS.iload X.here C.hx rfl (hb C.hby hd) hv q) H
theorem Wk.gto (C : Cx Z p s m meth c y bytes maxL ret) {o : Int} {pc' : Nat} (hd : decode bytes pc = .ok (.goto o, 3)) (ho : 0 ≤ (pc : Int) + o) (hp : ((pc : Int) + o).toNat = pc') (H : Wk W p l e R s m args below meth c n0 Q h k n (mkF m pc' Ls st)) : Wk W p l e R s m args below meth c n0 Q h k n (mkF m pc Ls st) :=
  Wk.st (fun X t q => XS.goto X.here C.hx rfl rfl (hb C.hby hd) ho hp q) H
theorem Wk.ifY (C : Cx Z p s m meth c y bytes maxL ret) {o : Int} {pc' : Nat} {cd : ClassFile.Cond} (hd : decode bytes pc = .ok (.ifCond cd o, 3)) (hc : ifCond.holds cd x = true) (ho : 0 ≤ (pc : Int) + o) (hp : ((pc : Int) + o).toNat = pc') (H : Wk W p l e R s m args below meth c n0 Q h k n (mkF m pc' Ls st)) : Wk W p l e R s m args below meth c n0 Q h k n (mkF m pc Ls (.int x :: st)) :=
  Wk.st (fun X t q => XS.ifYes X.here C.hx rfl rfl (hb C.hby hd) rfl hc ho hp q) H
theorem Wk.ifN (C : Cx Z p s m meth c y bytes maxL ret) {o : Int} {cd : ClassFile.Cond} (hd : decode bytes pc = .ok (.ifCond cd o, 3)) (hc : ifCond.holds cd x = false) (H : Wk W p l e R s m args below meth c n0 Q h k n (mkF m (pc + 3) Ls st)) : Wk W p l e R s m args below meth c n0 Q h k n (mkF m pc Ls (.int x :: st)) :=
  Wk.st (fun X t q => XS.ifNo X.here C.hx rfl (hb C.hby hd) rfl hc q) H
theorem Wk.icY (C : Cx Z p s m meth c y bytes maxL ret) {o : Int} {pc' : Nat} {cd : ClassFile.Cond} {x' : Int32} (hd : decode bytes pc = .ok (.if_icmp cd o, 3)) (hc : if_icmp.holds cd x x' = true) (ho : 0 ≤ (pc : Int) + o) (hp : ((pc : Int) + o).toNat = pc') (H : Wk W p l e R s m args below meth c n0 Q h k n (mkF m pc' Ls st)) : Wk W p l e R s m args below meth c n0 Q h k n (mkF m pc Ls (.int x' :: .int x :: st)) :=
  Wk.st (fun X t q => XS.icmpYes X.here C.hx rfl rfl (hb C.hby hd) rfl hc ho hp q) H
theorem Wk.icN (C : Cx Z p s m meth c y bytes maxL ret) {o : Int} {cd : ClassFile.Cond} {x' : Int32} (hd : decode bytes pc = .ok (.if_icmp cd o, 3)) (hc : if_icmp.holds cd x x' = false) (H : Wk W p l e R s m args below meth c n0 Q h k n (mkF m (pc + 3) Ls st)) : Wk W p l e R s m args below meth c n0 Q h k n (mkF m pc Ls (.int x' :: .int x :: st)) :=
  Wk.st (fun X t q => XS.icmpNo X.here C.hx rfl (hb C.hby hd) rfl hc q) H
theorem Wk.dupS (C : Cx Z p s m meth c y bytes maxL ret) (hd : decode bytes pc = .ok (.dup, 1)) (hc : v.category = 1) (H : Wk W p l e R s m args below meth c n0 Q h k n (mkF m (pc + 1) Ls (v :: v :: st))) : Wk W p l e R s m args below meth c n0 Q h k n (mkF m pc Ls (v :: st)) :=
  Wk.st (fun X t q => XS.dup X.here C.hx rfl (hb C.hby hd) rfl hc q) H
theorem Wk.popS (C : Cx Z p s m meth c y bytes maxL ret) (hd : decode bytes pc = .ok (.pop, 1)) (hc : v.category = 1) (H : Wk W p l e R s m args below meth c n0 Q h k n (mkF m (pc + 1) Ls st)) : Wk W p l e R s m args below meth c n0 Q h k n (mkF m pc Ls (v :: st)) :=
  Wk.st (fun X t q => XS.pop X.here C.hx rfl (hb C.hby hd) rfl hc q) H
end
section
variable {Z : State} {p : Program} {l : Launch} {e : Env} {R : Room} {s : State} {m : MethodId} {args : Array Value} {below : List Frame} {meth : Method} {c : Code} {y : MethodName} {bytes : ByteArray} {maxL : Nat} {ret : Option FieldType} {n0 : Nat} {Q : Option Value → Heap → Option Addr → Prop} {lt : Option Addr} {h : Heap} {k n : Nat} {pc : Nat} {Ls : Array Slot} {st : List Value} {v : Value} {x : Int32}
theorem Wl.ald (C : Cx Z p s m meth c y bytes maxL ret) {j : Fin 4} (hd : decode bytes pc = .ok (.aload_n j, 1)) (hv : Ls[j.val]? = some (.val v)) (hr : v.isRef = true) (H : Wl Z p l e R s m args below meth c n0 Q lt h k n (mkF m (pc + 1) Ls (v :: st))) : Wl Z p l e R s m args below meth c n0 Q lt h k n (mkF m pc Ls st) :=
  Wl.st (fun X t q => XS.aloadN X.here C.hx rfl (hb C.hby hd) hv hr q) H
theorem Wl.aldW (C : Cx Z p s m meth c y bytes maxL ret) {j : Nat} (hd : decode bytes pc = .ok (.aload j, 2)) (hv : Ls[j]? = some (.val v)) (hr : v.isRef = true) (H : Wl Z p l e R s m args below meth c n0 Q lt h k n (mkF m (pc + 2) Ls (v :: st))) : Wl Z p l e R s m args below meth c n0 Q lt h k n (mkF m pc Ls st) :=
  Wl.st (fun X t q => XS.aload X.here C.hx rfl (hb C.hby hd) hv hr q) H
theorem Wl.ild (C : Cx Z p s m meth c y bytes maxL ret) {j : Fin 4} (hd : decode bytes pc = .ok (.iload_n j, 1)) (hv : Ls[j.val]? = some (.val (.int x))) (H : Wl Z p l e R s m args below meth c n0 Q lt h k n (mkF m (pc + 1) Ls (.int x :: st))) : Wl Z p l e R s m args below meth c n0 Q lt h k n (mkF m pc Ls st) :=
  Wl.st (fun X t q => XS.iloadN X.here C.hx rfl (hb C.hby hd) hv q) H
theorem Wl.ildW (C : Cx Z p s m meth c y bytes maxL ret) {j : Nat} (hd : decode bytes pc = .ok (.iload j, 2)) (hv : Ls[j]? = some (.val (.int x))) (H : Wl Z p l e R s m args below meth c n0 Q lt h k n (mkF m (pc + 2) Ls (.int x :: st))) : Wl Z p l e R s m args below meth c n0 Q lt h k n (mkF m pc Ls st) :=
  Wl.st (fun X t q => XS.iload X.here C.hx rfl (hb C.hby hd) hv q) H
theorem Wl.gto (C : Cx Z p s m meth c y bytes maxL ret) {o : Int} {pc' : Nat} (hd : decode bytes pc = .ok (.goto o, 3)) (ho : 0 ≤ (pc : Int) + o) (hp : ((pc : Int) + o).toNat = pc') (H : Wl Z p l e R s m args below meth c n0 Q lt h k n (mkF m pc' Ls st)) : Wl Z p l e R s m args below meth c n0 Q lt h k n (mkF m pc Ls st) :=
  Wl.st (fun X t q => XS.goto X.here C.hx rfl rfl (hb C.hby hd) ho hp q) H
theorem Wl.ifY (C : Cx Z p s m meth c y bytes maxL ret) {o : Int} {pc' : Nat} {cd : ClassFile.Cond} (hd : decode bytes pc = .ok (.ifCond cd o, 3)) (hc : ifCond.holds cd x = true) (ho : 0 ≤ (pc : Int) + o) (hp : ((pc : Int) + o).toNat = pc') (H : Wl Z p l e R s m args below meth c n0 Q lt h k n (mkF m pc' Ls st)) : Wl Z p l e R s m args below meth c n0 Q lt h k n (mkF m pc Ls (.int x :: st)) :=
  Wl.st (fun X t q => XS.ifYes X.here C.hx rfl rfl (hb C.hby hd) rfl hc ho hp q) H
theorem Wl.ifN (C : Cx Z p s m meth c y bytes maxL ret) {o : Int} {cd : ClassFile.Cond} (hd : decode bytes pc = .ok (.ifCond cd o, 3)) (hc : ifCond.holds cd x = false) (H : Wl Z p l e R s m args below meth c n0 Q lt h k n (mkF m (pc + 3) Ls st)) : Wl Z p l e R s m args below meth c n0 Q lt h k n (mkF m pc Ls (.int x :: st)) :=
  Wl.st (fun X t q => XS.ifNo X.here C.hx rfl (hb C.hby hd) rfl hc q) H
theorem Wl.icY (C : Cx Z p s m meth c y bytes maxL ret) {o : Int} {pc' : Nat} {cd : ClassFile.Cond} {x' : Int32} (hd : decode bytes pc = .ok (.if_icmp cd o, 3)) (hc : if_icmp.holds cd x x' = true) (ho : 0 ≤ (pc : Int) + o) (hp : ((pc : Int) + o).toNat = pc') (H : Wl Z p l e R s m args below meth c n0 Q lt h k n (mkF m pc' Ls st)) : Wl Z p l e R s m args below meth c n0 Q lt h k n (mkF m pc Ls (.int x' :: .int x :: st)) :=
  Wl.st (fun X t q => XS.icmpYes X.here C.hx rfl rfl (hb C.hby hd) rfl hc ho hp q) H
theorem Wl.icN (C : Cx Z p s m meth c y bytes maxL ret) {o : Int} {cd : ClassFile.Cond} {x' : Int32} (hd : decode bytes pc = .ok (.if_icmp cd o, 3)) (hc : if_icmp.holds cd x x' = false) (H : Wl Z p l e R s m args below meth c n0 Q lt h k n (mkF m (pc + 3) Ls st)) : Wl Z p l e R s m args below meth c n0 Q lt h k n (mkF m pc Ls (.int x' :: .int x :: st)) :=
  Wl.st (fun X t q => XS.icmpNo X.here C.hx rfl (hb C.hby hd) rfl hc q) H
theorem Wl.dupS (C : Cx Z p s m meth c y bytes maxL ret) (hd : decode bytes pc = .ok (.dup, 1)) (hc : v.category = 1) (H : Wl Z p l e R s m args below meth c n0 Q lt h k n (mkF m (pc + 1) Ls (v :: v :: st))) : Wl Z p l e R s m args below meth c n0 Q lt h k n (mkF m pc Ls (v :: st)) :=
  Wl.st (fun X t q => XS.dup X.here C.hx rfl (hb C.hby hd) rfl hc q) H
theorem Wl.popS (C : Cx Z p s m meth c y bytes maxL ret) (hd : decode bytes pc = .ok (.pop, 1)) (hc : v.category = 1) (H : Wl Z p l e R s m args below meth c n0 Q lt h k n (mkF m (pc + 1) Ls st)) : Wl Z p l e R s m args below meth c n0 Q lt h k n (mkF m pc Ls (v :: st)) :=
  Wl.st (fun X t q => XS.pop X.here C.hx rfl (hb C.hby hd) rfl hc q) H
end
end Jvm.Own
namespace Jvm.Own
open Jvm Jvm.ClassFile Sem Op Lib Jvm.Free Jvm.Stand Jvm.LawKit Jvm.RoadKit
/-! numbers and bytes for s233-m2 -/
theorem sh0 (x : Int32) : x >>> ((0 : Int32) &&& 31) = x := by
  have := c_ishr x 0 0 (by decide)
  apply Int32.toInt_inj.mp; rw [this]; simp
theorem shl0 (x : Int32) : x <<< ((0 : Int32) &&& 31) = x := by
  have c := c_ishl x 0 0 (by decide)
  have := Int32.toInt_lt x; have := Int32.le_toInt x; have := Int32.toInt_lt (x <<< ((0 : Int32) &&& 31)); have := Int32.le_toInt (x <<< ((0 : Int32) &&& 31))
  apply Int32.toInt_inj.mp
  rw [show ((2 ^ 0 : Nat) : Int) = 1 from rfl, Int.mul_one] at c
  omega
theorem half32 {i : Nat} (h : i < 2147483648) : (Int32.ofNat i) >>> ((1 : Int32) &&& 31) = Int32.ofNat (i / 2) := by
  have c := c_ishr (Int32.ofNat i) 1 1 (by decide)
  apply e32 (by omega); rw [c, n32 h]; simp
def FT (f : Nat → Value) (n : Nat) : Prop := ∀ i, i < n → fits .byte (f i) = true
/-- the two pieces of a text -/
def cat2 (f g : Nat → Value) (n : Nat) : Nat → Value := fun i => if i < n then f i else g (i - n)
theorem FT.cat {f g : Nat → Value} {n m : Nat} (F : FT f n) (G : FT g m) : FT (cat2 f g n) (n + m) := fun i hi => by
  simp only [cat2]; split
  · exact F i ‹_›
  · exact G (i - n) (by omega)
abbrev ST : String := "java/lang/String"
abbrev AB : String := "java/lang/AbstractStringBuilder"
abbrev SBN : String := "java/lang/StringBuilder"
def Str (Z : State) (h : Heap) (a va : Addr) (n : Nat) (f : Nat → Value) : Prop :=
  Exa Z h a ST ∧ Fld Z h a ST "value" "[B" (.ref va) ∧ Fld Z h a ST "coder" "B" (.int 0) ∧ Fa Z h va .byte n f ∧ Exa Z h va "[B" ∧ a ≠ va ∧ FT f n ∧ n < 1000
def Sb (Z : State) (h : Heap) (a va : Addr) (c n : Nat) (g : Nat → Value) : Prop :=
  Exa Z h a SBN ∧ Fld Z h a AB "value" "[B" (.ref va) ∧ Fld Z h a AB "coder" "B" (.int 0) ∧ Fld Z h a AB "count" "I" (.int (Int32.ofNat n)) ∧ Fld Z h a AB "maybeLatin1" "Z" (.int 0) ∧ Fa Z h va .byte c g ∧ Exa Z h va "[B" ∧ a ≠ va ∧ FT g c ∧ n ≤ c ∧ c < 1000
def NS1 (h : Heap) (a : Addr) : Prop := ∀ cell : Cell, h[a]? = some cell → cell.vm.isStatics = false
theorem sta_keep {Z : State} {h h' : Heap} {C n d : String} {v : Value} {ws : List Addr} (F : Sta Z h C n d v) (K : Keep h h' ws) (q : ∀ x ∈ ws, NS1 h x) : Sta Z h' C n d v := by
  obtain ⟨cf, i, k, f, st, cell, h1, h2, h3, h4, h5, h6, h7⟩ := F
  exact ⟨cf, i, k, f, st, cell, h1, h2, h3, h4, K.2.1 st cell h5 (fun hm => by have := q st hm cell h5; rw [h6] at this; cases this), h6, h7⟩
theorem Fa.ns {Z : State} {h : Heap} {a : Addr} {ty : FieldType} {N : Nat} {f : Nat → Value} (F : Fa Z h a ty N f) : NS1 h a := fun cell hc => by
  obtain ⟨c, A, -⟩ := F
  cases A.1.symm.trans hc
  obtain ⟨hst, -⟩ := A.2.1
  cases hq : cell.vm.isStatics with
  | false => rfl
  | true => exfalso; revert hq; cases hv : cell.vm <;> simp [VmData.isStatics]; exact hst _ hv
theorem exa_ns {Z : State} {h : Heap} {a : Addr} {C : String} (F : Exa Z h a C) : NS1 h a := fun cell hc => by
  obtain ⟨c, k, h1, -, -, h4, -⟩ := F
  cases h1.symm.trans hc; exact h4
end Jvm.Own
namespace Jvm.Own
open Jvm Jvm.ClassFile Sem Op Lib Jvm.Free Jvm.Stand Jvm.LawKit Jvm.RoadKit
/-! Strings, StringBuilders, the Builder and Paragraphs in the heap (s233-m2) -/
theorem FT.cpf {f g : Nat → Value} {N c sp dp nn : Nat} (F : FT f N) (G : FT g c) (q : sp + nn ≤ N) : FT (cpf f g sp dp nn) c := fun i hi => by
  simp only [Jvm.Own.cpf]; split
  · exact F _ (by omega)
  · exact G i hi
theorem FT.zero {c : Nat} : FT (fun _ => .int 0) c := fun _ _ => rfl
theorem FT.shift {f : Nat → Value} {N d k : Nat} (F : FT f N) (q : d + k ≤ N) : FT (fun i => f (d + i)) k := fun i hi => F _ (by omega)
theorem FT.congr {f g : Nat → Value} {n : Nat} (F : FT f n) (q : ∀ i, i < n → f i = g i) : FT g n := fun i hi => q i hi ▸ F i hi
theorem FT.less {f : Nat → Value} {n k : Nat} (F : FT f n) (q : k ≤ n) : FT f k := fun i hi => F i (by omega)
def FI (f : Nat → Value) (n : Nat) : Prop := ∀ i, i < n → fits .int (f i) = true
theorem FI.cpf {f g : Nat → Value} {N c sp dp nn : Nat} (F : FI f N) (G : FI g c) (q : sp + nn ≤ N) : FI (cpf f g sp dp nn) c := fun i hi => by
  simp only [Jvm.Own.cpf]; split
  · exact F _ (by omega)
  · exact G i hi
theorem FI.zero {c : Nat} : FI (fun _ => .int 0) c := fun _ _ => rfl
theorem FI.up {f : Nat → Value} {n j : Nat} {x : Int32} (F : FI f n) : FI (up f j (.int x)) n := fun i hi => by
  simp only [Jvm.Own.up]; split
  · rfl
  · exact F i hi
section S
variable {Z : State} {h h' : Heap} {a va o vo : Addr} {n c : Nat} {f g : Nat → Value} {ws : List Addr}
theorem Str.congr (S : Str Z h a va n f) (q : ∀ i, i < n → f i = g i) : Str Z h a va n g :=
  ⟨S.1, S.2.1, S.2.2.1, S.2.2.2.1.congr q, S.2.2.2.2.1, S.2.2.2.2.2.1, S.2.2.2.2.2.2.1.congr q, S.2.2.2.2.2.2.2⟩
theorem Str.keep (S : Str Z h a va n f) (K : Keep h h' ws) (q1 : a ∉ ws) (q2 : va ∉ ws) : Str Z h' a va n f :=
  ⟨S.1.keep K, S.2.1.keep K q1, S.2.2.1.keep K q1, S.2.2.2.1.keep K q2, S.2.2.2.2.1.keep K, S.2.2.2.2.2⟩
theorem Str.ext (S : Str Z h a va n f) (E : Ext h h') : Str Z h' a va n f :=
  ⟨S.1.ext E, S.2.1.ext E, S.2.2.1.ext E, S.2.2.2.1.ext E, S.2.2.2.2.1.ext E, S.2.2.2.2.2⟩
theorem Str.lt (S : Str Z h a va n f) : a < h.size := S.1.lt
theorem Str.ltv (S : Str Z h a va n f) : va < h.size := S.2.2.2.1.lt
theorem StrE.str (S : StrE Z h a va) : Str Z h a va 0 f :=
  ⟨S.1, S.2.1, S.2.2.1, S.2.2.2.1.congr (fun i hi => absurd hi (Nat.not_lt_zero _)), S.2.2.2.2.1, S.2.2.2.2.2, fun i hi => absurd hi (Nat.not_lt_zero _), by decide⟩
theorem StrE.ext (S : StrE Z h a va) (E : Ext h h') : StrE Z h' a va :=
  ⟨S.1.ext E, S.2.1.ext E, S.2.2.1.ext E, S.2.2.2.1.ext E, S.2.2.2.2.1.ext E, S.2.2.2.2.2⟩
theorem Sb.keep (S : Sb Z h o vo c n g) (K : Keep h h' ws) (q1 : o ∉ ws) (q2 : vo ∉ ws) : Sb Z h' o vo c n g :=
  ⟨S.1.keep K, S.2.1.keep K q1, S.2.2.1.keep K q1, S.2.2.2.1.keep K q1, S.2.2.2.2.1.keep K q1, S.2.2.2.2.2.1.keep K q2, S.2.2.2.2.2.2.1.keep K, S.2.2.2.2.2.2.2⟩
theorem toExt (K : Keep h h' []) : Ext h h' := ⟨K.1, fun x c q => K.2.1 x c q nm0⟩
theorem kmono {vs : List Addr} (K : Keep h h' ws) (q : ∀ x ∈ ws, x ∈ vs) : Keep h h' vs := ⟨K.1, fun x c p r => K.2.1 x c p (fun z => r (q x z)), K.2.2⟩
theorem ekeep (E : Ext h h') (ws : List Addr) : Keep h h' ws := (Keep.refl h ws).ext E
end S
/-- what is written is b, or was made after hp -/
def Kq (hp : Heap) (b : Addr) (h h' : Heap) : Prop := ∃ ws, Keep h h' ws ∧ ∀ x ∈ ws, x = b ∨ hp.size ≤ x
section K
variable {hp h h' h'' : Heap} {b a : Addr} {ws : List Addr} {sl : Nat} {v : Value}
theorem Kq.refl (hp : Heap) (b : Addr) (h : Heap) : Kq hp b h h := ⟨[], Keep.refl h [], nv0⟩
theorem Kq.trans (Q : Kq hp b h h') (K : Keep h' h'' ws) (t : ∀ x ∈ ws, x = b ∨ hp.size ≤ x) : Kq hp b h h'' := by
  obtain ⟨vs, K0, t0⟩ := Q
  refine ⟨vs ++ ws, (kmono K0 (fun x q => List.mem_append_left _ q)).trans K (fun x q => Or.inl (List.mem_append_right _ q)), fun x q => ?_⟩
  rcases List.mem_append.mp q with q | q
  · exact t0 x q
  · exact t x q
theorem Kq.wr (Q : Kq hp b h h') (W : Wr h' h'' a sl v) (q : a = b ∨ hp.size ≤ a) : Kq hp b h h'' := Q.trans (Keep.of_wr W) (nvS q nv0)
theorem Kq.ext (Q : Kq hp b h h') (E : Ext h' h'') : Kq hp b h h'' := Q.trans (ekeep E []) nv0
theorem Kq.le (Q : Kq hp b h h') : h.size ≤ h'.size := by obtain ⟨_, K, -⟩ := Q; exact K.1
/-- what stood before hp, other than b, stands -/
theorem Kq.keepb (K : Keep hp h [b]) (Q : Kq hp b h h') : Keep hp h' [b] := by
  obtain ⟨ws, K', t⟩ := Q
  exact K.trans K' (fun x q => (t x q).imp (fun e => List.mem_singleton.mpr e) id)
theorem Kq.all {hs : Heap} (K : Keep hs h []) (Q : Kq hp b h h') (g1 : hs.size ≤ hp.size) (g2 : hs.size ≤ b) : Keep hs h' [] := by
  obtain ⟨ws, K', t⟩ := Q
  exact K.trans K' (fun x q => Or.inr ((t x q).elim (fun e => e ▸ g2) (fun z => Nat.le_trans g1 z)))
end K
abbrev PB : String := "com/example/amendatory/amendatory/Paragraphs$Builder"
abbrev PP : String := "com/example/amendatory/amendatory/Paragraphs"
abbrev TD : String := "Ljava/lang/StringBuilder;"
def Tq (Z : State) (h hp : Heap) (b bd : Addr) (n : Nat) (G : Nat → Value) : Prop :=
  ∃ t vt cp g, Fld Z h b PB "text" TD (.ref t) ∧ Sb Z h t vt cp n g ∧ (∀ i, i < n → g i = G i) ∧ b ≠ t ∧ b ≠ vt ∧ bd ≠ t ∧ bd ≠ vt ∧ hp.size ≤ t ∧ hp.size ≤ vt
def Tx (Z : State) (h hp : Heap) (b bd : Addr) (n : Nat) (G : Nat → Value) : Prop := (Fld Z h b PB "text" TD .null ∧ n = 0) ∨ Tq Z h hp b bd n G
/-- the Builder: k texts, bounds ff (M places), its text T -/
def BB (Z : State) (h : Heap) (b : Addr) (k M : Nat) (ff : Nat → Value) (ch : Nat) (T : Addr → Prop) : Prop :=
  Exa Z h b PB ∧ Fld Z h b PB "count" "I" (.int (Int32.ofNat k)) ∧ Fld Z h b PB "characters" "I" (.int (Int32.ofNat ch)) ∧ ∃ bd, Fld Z h b PB "bounds" "[I" (.ref bd) ∧ Fa Z h bd .int M ff ∧ FI ff M ∧ bd ≠ b ∧ T bd
theorem BB.imp {Z : State} {h : Heap} {b : Addr} {k M ch : Nat} {ff : Nat → Value} {T T' : Addr → Prop} (H : BB Z h b k M ff ch T) (q : ∀ bd, T bd → T' bd) : BB Z h b k M ff ch T' := by
  obtain ⟨h1, h2, h3, bd, h4, h5, h6, h7, h8⟩ := H; exact ⟨h1, h2, h3, bd, h4, h5, h6, h7, q bd h8⟩
/-- what clear asks -/
def BC (Z : State) (h : Heap) (b : Addr) (k ch : Nat) : Prop :=
  Exa Z h b PB ∧ Fld Z h b PB "count" "I" (.int (Int32.ofNat k)) ∧ Fld Z h b PB "characters" "I" (.int (Int32.ofNat ch)) ∧ ∃ tv bv, Fld Z h b PB "text" TD tv ∧ Fld Z h b PB "bounds" "[I" bv
theorem BC.ext {Z : State} {h h' : Heap} {b : Addr} {k ch : Nat} (H : BC Z h b k ch) (E : Ext h h') : BC Z h' b k ch := by
  obtain ⟨h1, h2, h3, tv, bv, h4, h5⟩ := H; exact ⟨h1.ext E, h2.ext E, h3.ext E, tv, bv, h4.ext E, h5.ext E⟩
theorem BB.clr {Z : State} {h : Heap} {b : Addr} {k M ch : Nat} {ff : Nat → Value} {T : Addr → Prop} (H : BB Z h b k M ff ch T) (q : ∀ bd, T bd → ∃ tv, Fld Z h b PB "text" TD tv) : BC Z h b k ch := by
  obtain ⟨h1, h2, h3, bd, h4, h5, h6, h7, h8⟩ := H; obtain ⟨tv, h9⟩ := q bd h8; exact ⟨h1, h2, h3, tv, _, h9, h4⟩
theorem Tq.tv {Z : State} {h hp : Heap} {b bd : Addr} {n : Nat} {G : Nat → Value} (T : Tq Z h hp b bd n G) : ∃ tv, Fld Z h b PB "text" TD tv := by
  obtain ⟨t, vt, cp, g, h1, -⟩ := T; exact ⟨_, h1⟩
theorem Sb.cast {Z : State} {h : Heap} {o vo : Addr} {c n n' : Nat} {g : Nat → Value} (e : n = n') (S : Sb Z h o vo c n g) : Sb Z h o vo c n' g := e ▸ S
/-- Paragraphs of k texts -/
def Pa (Z : State) (h : Heap) (q x vx bd : Addr) (k M n : Nat) (G ff : Nat → Value) : Prop :=
  Exa Z h q PP ∧ Fld Z h q PP "to" "I" (.int (Int32.ofNat k)) ∧ Fld Z h q PP "from" "I" (.int (0 : Int32)) ∧ Fld Z h q PP "text" "Ljava/lang/String;" (.ref x) ∧ Fld Z h q PP "bounds" "[I" (.ref bd) ∧ Str Z h x vx n G ∧ Fa Z h bd .int M ff
def P0 (Z : State) (h : Heap) (q : Addr) : Prop := Exa Z h q PP ∧ Fld Z h q PP "to" "I" (.int (0 : Int32)) ∧ Fld Z h q PP "from" "I" (.int (0 : Int32))
section P
variable {Z : State} {h h' : Heap} {q x vx bd : Addr} {k M n : Nat} {G ff : Nat → Value} {ws : List Addr}
theorem Pa.keep (P : Pa Z h q x vx bd k M n G ff) (K : Keep h h' ws) (q1 : q ∉ ws) (q2 : x ∉ ws) (q3 : vx ∉ ws) (q4 : bd ∉ ws) : Pa Z h' q x vx bd k M n G ff :=
  ⟨P.1.keep K, P.2.1.keep K q1, P.2.2.1.keep K q1, P.2.2.2.1.keep K q1, P.2.2.2.2.1.keep K q1, P.2.2.2.2.2.1.keep K q2 q3, P.2.2.2.2.2.2.keep K q4⟩
theorem P0.ext (P : P0 Z h q) (E : Ext h h') : P0 Z h' q := ⟨P.1.ext E, P.2.1.ext E, P.2.2.ext E⟩
end P
theorem cat_app {f g G : Nat → Value} {no n : Nat} (q : ∀ i, i < no → g i = G i) : ∀ i, i < no + n → cpf f g 0 no n i = cat2 G f no i := fun i hi => by
  simp only [cpf, cat2]
  by_cases z : i < no
  · rw [if_neg (by omega), if_pos z]; exact q i z
  · rw [if_pos (by omega), if_neg z, Nat.zero_add]
theorem cpf_0 {f g : Nat → Value} {n i : Nat} (hi : i < n) : cpf f g 0 0 n i = f i := by
  simp only [cpf]; rw [if_pos (by omega)]; simp
theorem z32 (x : Int32) : (0 : Int32) + x = x := by simp
theorem sz32 (x : Int32) : x - (0 : Int32) = x := by simp
theorem one32 {k : Nat} (h : k < 1000) : Int32.ofNat k + (1 : Int32) = Int32.ofNat (k + 1) := add32 (i := k) (j := 1) (by omega)
/-- a StringBuilder is no String -/
theorem sb_not_str {Z : State} {a0 : Array Value} (w1 : (Cond.superclass SBN AB).before a0 Z = true) (w2 : (Cond.superclass AB "java/lang/Object").before a0 Z = true) (w3 : (Cond.noSuperclass "java/lang/Object").before a0 Z = true) (wi : (Cond.instantiable ST 4).before a0 Z = true) :
    ∃ c t, Z.vm.findClass SBN = some c ∧ Z.vm.findClass ST = some t ∧ Z.vm.assignable c t = false := by
  obtain ⟨t, k', g0, g2, g5, g7, -⟩ := Cond.instantiable_spec wi
  have g0' : Z.vm.findClass ST = some t := g0
  have g2' : Z.vm.classes[t]? = some k' := g2
  have g7' : k'.isInterface = false := by simp at g7; exact g7.1
  have r : NS Z "java/lang/Object" ST := by
    obtain ⟨c, k, h1, h2, h3, -, -⟩ := Cond.noSuperclass_spec w3
    have ne := ids_ne h1 g0' (by decide)
    refine ⟨c, t, h1, g0', fun fuel => ?_⟩
    cases fuel with
    | zero => rfl
    | succ f => simp [Vm.isSubclassAux, ne, h2, h3]
  obtain ⟨c, t', h0, g0'', n3⟩ := NS.step w1 (NS.step w2 r (by decide)) (by decide)
  cases g0'.symm.trans g0''
  obtain ⟨p, k, kp, h1, h2, h3, h4, h5, -, h7⟩ := Cond.superclass_spec h0 w1
  have ne := ids_ne h0 g0' (by decide)
  refine ⟨c, t, h0, g0', ?_⟩
  show Z.vm.assignableAux (255 + 1) c t = false
  simp [Vm.assignableAux, ne, h2, g2', h5, g5, g7', Vm.isSubclass, n3]
end Jvm.Own
namespace Jvm.Own
open Jvm Jvm.ClassFile Sem Op Lib Jvm.Free Jvm.Stand Jvm.LawKit Jvm.RoadKit
theorem LtOk.ext {Z : State} {h h' : Heap} {lt : Option Addr} (H : LtOk Z h lt) (E : Ext h h') : LtOk Z h' lt := fun a e => (H a e).imp (fun ⟨va, S⟩ => ⟨va, S.ext E⟩) id
theorem LtOk.now {Z : State} {h h' : Heap} {a va : Addr} {lt lt' : Option Addr} (H : LtOk Z h lt) (E : Ext h h') (S : StrE Z h' a va) (q : lt' = lt ∨ lt' = some a) : LtOk Z h' lt' := by
  rcases q with q | q
  · exact q ▸ H.ext E
  · exact fun b e => Or.inl ⟨va, by have : a = b := Option.some.inj (q.symm.trans e); exact this ▸ S⟩
end Jvm.Own
namespace Jvm.Own
open Jvm Jvm.ClassFile Sem Op Lib Jvm.Free Jvm.Stand Jvm.LawKit Jvm.RoadKit
theorem inj32 {i j : Nat} (hi : i < 2147483648) (hj : j < 2147483648) (q : Int32.ofNat i = Int32.ofNat j) : i = j := by have := congrArg Int32.toInt q; rw [n32 hi, n32 hj] at this; omega
theorem clone_fa {Z : State} {h : Heap} {b : Addr} {k0 d d1 : Nat} {f : Nat → Value} (z1 : d = 0) (z2 : d1 = k0) (F : Fa Z h b .byte k0 f) : Fa Z h b .byte (d1 - d) (fun i => f (d + i)) := by subst z1 z2; simpa using F
end Jvm.Own
namespace Jvm.Own
open Jvm Jvm.ClassFile Sem Op Lib Jvm.Free Jvm.Stand Jvm.LawKit Jvm.RoadKit
theorem bytes_of {f : Nat → Value} {n : Nat} (F : FT f n) : ∃ φ : Nat → Int32, ∀ i, i < n → f i = .int (φ i) :=
  ⟨fun i => (match f i with | .int z => z | _ => 0), fun i hi => by
    have q := F i hi
    show f i = .int (match f i with | .int z => z | _ => 0)
    generalize f i = u at q ⊢
    cases u <;> first | rfl | (simp [fits] at q)⟩
theorem Str.cast {Z : State} {h : Heap} {a va : Addr} {n n' : Nat} {f : Nat → Value} (e : n = n') (S : Str Z h a va n f) : Str Z h a va n' f := e ▸ S
theorem Str.whole {Z : State} {h : Heap} {a va : Addr} {n d d1 : Nat} {f : Nat → Value} (z1 : d = 0) (z2 : d1 = n) (S : Str Z h a va n f) : Str Z h a va (d1 - d) (fun i => f (d + i)) := by subst z1 z2; simpa using S
end Jvm.Own
namespace Jvm.Own
open Jvm Jvm.ClassFile Sem Op Lib Jvm.Free Jvm.Stand Jvm.LawKit Jvm.RoadKit
theorem Fa.cast {Z : State} {h : Heap} {a : Addr} {ty : FieldType} {n n' : Nat} {f : Nat → Value} (e : n = n') (F : Fa Z h a ty n f) : Fa Z h a ty n' f := e ▸ F
theorem Pa.ext {Z : State} {h h' : Heap} {q x vx bd : Addr} {k M n : Nat} {G ff : Nat → Value} (P : Pa Z h q x vx bd k M n G ff) (E : Ext h h') : Pa Z h' q x vx bd k M n G ff := P.keep (ekeep E []) nm0 nm0 nm0 nm0
theorem MetL.imp {l : Launch} {Z : State} {n0 : Nat} {y : MethodName} {bytes : ByteArray} {maxL : Nat} {ret : Option FieldType} {rm : Room} {as : Array Value} {lt : Option Addr} {h : Heap} {Q Q' : Option Value → Heap → Option Addr → Prop} (M : MetL l Z n0 y bytes maxL ret rm as lt h Q) (q : ∀ v h' lt', Q v h' lt' → Q' v h' lt') : MetL l Z n0 y bytes maxL ret rm as lt h Q' := by
  intro ws p e ha hc hk s m args below hf happ hP hK
  obtain ⟨n, o, h1, h2, h3, v, L, lt', h4, ⟨h5, h6⟩, h7⟩ := M ws p e ha hc hk s m args below hf happ hP hK
  exact ⟨n, o, h1, h2, h3, v, L, lt', h4, ⟨q _ _ _ h5, h6⟩, h7⟩
theorem and3 (x : Int32) : x &&& (3 : Int32) = 0 ∨ x &&& (3 : Int32) = 1 ∨ x &&& (3 : Int32) = 2 ∨ x &&& (3 : Int32) = 3 := by
  have h := c_mask x 3 2 (by decide) (by decide)
  generalize x &&& (3 : Int32) = r at h ⊢
  have q : r.toInt = 0 ∨ r.toInt = 1 ∨ r.toInt = 2 ∨ r.toInt = 3 := by omega
  rcases q with q | q | q | q
  · exact Or.inl (Int32.toInt_inj.mp q)
  · exact Or.inr (Or.inl (Int32.toInt_inj.mp q))
  · exact Or.inr (Or.inr (Or.inl (Int32.toInt_inj.mp q)))
  · exact Or.inr (Or.inr (Or.inr (Int32.toInt_inj.mp q)))
theorem rem3 (x : Int32) : (x &&& (3 : Int32)) % (3 : Int32) = 0 ∨ (x &&& (3 : Int32)) % (3 : Int32) = 1 ∨ (x &&& (3 : Int32)) % (3 : Int32) = 2 := by
  rcases and3 x with q | q | q | q <;> rw [q]
  · exact Or.inl (by decide)
  · exact Or.inr (Or.inl (by decide))
  · exact Or.inr (Or.inr (by decide))
  · exact Or.inl (by decide)
theorem and63 (x : Int32) : ∃ k : Nat, k ≤ 63 ∧ x &&& (63 : Int32) = Int32.ofNat k := by
  have h := c_mask x 63 6 (by decide) (by decide)
  generalize x &&& (63 : Int32) = r at h ⊢
  exact ⟨r.toInt.toNat, by omega, e32 (by omega) (by omega)⟩
end Jvm.Own
namespace Jvm.Own
open Jvm Jvm.ClassFile Sem Op Lib Jvm.Free Jvm.Stand Jvm.LawKit Jvm.RoadKit
theorem ffn_old {ff g : Nat → Value} {v : Value} {k i : Nat} (hi : i ≤ k) : up (cpf ff g 0 0 (k + 1)) (k + 1) v i = ff i := by rw [up_ne (by omega), cpf_0 (by omega)]
theorem ffn_new {ff : Nat → Value} {v : Value} {k : Nat} : up ff k v k = v := up_eq rfl
theorem ffn_new1 {ff : Nat → Value} {n : Nat} : up ff (0 + 1) (.int (Int32.ofNat (0 + n))) 1 = .int (Int32.ofNat n) := by simp only [Nat.zero_add]; exact up_eq rfl
theorem ffn_new2 {ff : Nat → Value} {n n' : Nat} : up ff (1 + 1) (.int (Int32.ofNat (0 + n + n'))) 2 = .int (Int32.ofNat (n + n')) := by simp only [Nat.zero_add]; exact up_eq rfl
theorem cat_0 {g f : Nat → Value} (i : Nat) : cat2 g f 0 (0 + i) = f i := by simp [cat2]
theorem cat_l {g f f' : Nat → Value} {n i : Nat} (h : i < n) : cat2 (cat2 g f 0) f' (0 + n) (0 + i) = f i := by
  unfold cat2; rw [if_pos (by omega), if_neg (by omega)]; simp
theorem cat_r {g f : Nat → Value} {n i : Nat} : cat2 g f (0 + n) (n + i) = f i := by
  unfold cat2; rw [if_neg (by omega)]; congr 1; omega
end Jvm.Own
namespace Jvm.Own
open Jvm Jvm.ClassFile Sem Op Lib Jvm.Free Jvm.Stand Jvm.LawKit Jvm.RoadKit
theorem mvM {Z s : State} {a0 args : Array Value} {own host : String} {x : MethodName} {index : Nat} (hZ : Z.Warmed39 s.vm) (w : (Cond.methodLinkNest own index x host).before a0 Z = true) : (Cond.methodLinkNest own index x host).before args s = true := (Cond.methodLinkNest_wide hZ w :)
theorem notFace_by {args : Array Value} {s : State} {K : String} {x' z' y : MethodName} (w : (Cond.selects K x' z').before args s = true) (hc : z'.cls = y.cls) : NotFace s y := fun r0 h0 => by
  obtain ⟨c2, r2, m2, q1, q2, q3, q4, kP, hkP, hkPi⟩ := Cond.selects_spec w
  have f1 := findClass_of_methodNamed q3
  have f2 := findClass_of_methodNamed h0
  rw [hc] at f1
  have e := Option.some.inj (f1.symm.trans f2)
  rw [e] at hkP
  exact ⟨kP, hkP, hkPi⟩
end Jvm.Own
namespace Jvm.Own
open Jvm Jvm.ClassFile Sem Op Lib Jvm.Free Jvm.Stand Jvm.LawKit Jvm.RoadKit
/-! the case's start (s233-m2) -/
/-- what the table of interned texts answers for "" -/
def ltOf (Z : State) : Option Addr := (Z.vm.interned.find? (fun p => p.1 == #[])).map Prod.snd
theorem ltOf_lx (Z : State) : Lx Z (ltOf Z) Z := rfl
theorem len_one {args : Array Value} {s : State} {t : Term} {a : Addr} {cl : Cell} {ty : FieldType} (ev : t.eval args s none [] s = some (.ref a)) (A : Arr s s.heap a cl ty) (hq : (Cond.eq (Term.length t) (Term.int 1)).value args s none s [] = some true) : cl.slots.size = 1 := by
  obtain ⟨x, y, h1, h2, k1, k2⟩ := cmp_v (Or.inl hq)
  cases (show some (Value.int 1) = some y from h2)
  obtain ⟨w, rfl⟩ := k2
  have q := gotT (show (Cond.eq (Term.length t) (Term.int 1)).value args s none s [] = some (decide (w = 1)) by simp [Cond.value, h1, h2]) hq
  subst q
  have hA := A.fin (Vm.Alike.refl _)
  simp [Term.eval, ev, hA] at h1
  obtain ⟨z1, z2⟩ := h1
  have z3 := congrArg Int32.toInt z2
  rw [show (cl.slots.size.toInt32).toInt = cl.slots.size from Int32.toInt_ofNat_of_lt z1] at z3
  have z4 : (1 : Int32).toInt = 1 := rfl
  omega
theorem elem_int {args : Array Value} {s : State} {t : Term} {a : Addr} {cl : Cell} {j z : Int32} (ev : t.eval args s none [] s = some (.ref a)) (hc : s.heap[a]? = some cl) (hq : (Cond.eq (Term.elem t (Term.int j)) (Term.int z)).value args s none s [] = some true) : ¬ (j < 0 ∨ cl.slots.size ≤ j.toNatClampNeg) ∧ cl.slots[j.toNatClampNeg]? = some (.int z) := by
  obtain ⟨x, y, h1, h2, k1, k2⟩ := cmp_v (Or.inl hq)
  cases (show some (Value.int z) = some y from h2)
  obtain ⟨w, rfl⟩ := k2
  have q := gotT (show (Cond.eq (Term.elem t (Term.int j)) (Term.int z)).value args s none s [] = some (decide (w = z)) by simp [Cond.value, h1, h2]) hq
  subst q
  exact elem_in h1 ev rfl hc
theorem nb_fa {s : State} {a : Addr} {cl : Cell} (A : Arr s s.heap a cl .int) (hl : cl.slots.size = 1) (he : cl.slots[(0 : Int32).toNatClampNeg]? = some (.int 0)) : Fa s s.heap a .int 1 (fun _ => .int (0 : Int32)) :=
  ⟨cl, A, hl, by decide, fun i hi => by
    have e : i = 0 := by omega
    subst e; exact he⟩
end Jvm.Own
namespace Jvm.Pilot.@@N@@
open Jvm Jvm.ClassFile Sem Op Lib Jvm.Free Jvm.Stand Jvm.LawKit Jvm.RoadKit Bundle Jvm.Own Jvm.Pilot.@@N@@.Jvm.D
theorem pn_0 : plainName "java/lang/String" = true := by first | (simp [plainName, overriddenIn]; done) | decide +kernel
theorem pn_1 : plainName "java/lang/AbstractStringBuilder" = true := by first | (simp [plainName, overriddenIn]; done) | decide +kernel
theorem pn_2 : plainName "java/lang/StringBuilder" = true := by first | (simp [plainName, overriddenIn]; done) | decide +kernel
theorem pn_3 : plainName "java/util/Arrays" = true := by first | (simp [plainName, overriddenIn]; done) | decide +kernel
theorem pn_4 : plainName "java/util/AbstractCollection" = true := by first | (simp [plainName, overriddenIn]; done) | decide +kernel
theorem pn_5 : plainName "java/util/AbstractList" = true := by first | (simp [plainName, overriddenIn]; done) | decide +kernel
theorem pn_6 : plainName "com/example/amendatory/amendatory/Paragraphs" = true := by first | (simp [plainName, overriddenIn]; done) | decide +kernel
theorem pn_7 : plainName "com/example/amendatory/amendatory/Paragraphs$Builder" = true := by first | (simp [plainName, overriddenIn]; done) | decide +kernel
theorem pn_8 : plainName "java/lang/StringLatin1" = true := by first | (simp [plainName, overriddenIn]; done) | decide +kernel
theorem pn_9 : plainName "jdk/internal/util/Preconditions" = true := by first | (simp [plainName, overriddenIn]; done) | decide +kernel
theorem pn_10 : plainName "com/example/amendatory/amendatory/BuilderClearPinLaw" = true := by first | (simp [plainName, overriddenIn]; done) | decide +kernel
theorem pn_11 : plainName "java/lang/StringUTF16" = true := by first | (simp [plainName, overriddenIn]; done) | decide +kernel
theorem pd_0 : parseMethodDescriptor "()B" = some ⟨[], some .byte⟩ := by decide +kernel
theorem pd_1 : parseMethodDescriptor "()I" = some ⟨[], some .int⟩ := by decide +kernel
theorem pd_2 : parseMethodDescriptor "(I)V" = some ⟨[.int], none⟩ := by decide +kernel
theorem pd_3 : parseMethodDescriptor "(Ljava/lang/String;)V" = some ⟨[(.object "java/lang/String")], none⟩ := by decide +kernel
theorem pd_4 : parseMethodDescriptor "([BIB)V" = some ⟨[(.array .byte), .int, .byte], none⟩ := by decide +kernel
theorem pd_5 : parseMethodDescriptor "(ILjava/lang/String;)V" = some ⟨[.int, (.object "java/lang/String")], none⟩ := by decide +kernel
theorem pd_6 : parseMethodDescriptor "(Ljava/lang/String;)Ljava/lang/AbstractStringBuilder;" = some ⟨[(.object "java/lang/String")], some (.object "java/lang/AbstractStringBuilder")⟩ := by decide +kernel
theorem pd_7 : parseMethodDescriptor "(Ljava/lang/String;)Ljava/lang/StringBuilder;" = some ⟨[(.object "java/lang/String")], some (.object "java/lang/StringBuilder")⟩ := by decide +kernel
theorem pd_8 : parseMethodDescriptor "(Ljava/lang/CharSequence;)Ljava/lang/AbstractStringBuilder;" = some ⟨[(.object "java/lang/CharSequence")], some (.object "java/lang/AbstractStringBuilder")⟩ := by decide +kernel
theorem pd_9 : parseMethodDescriptor "(Ljava/lang/AbstractStringBuilder;)V" = some ⟨[(.object "java/lang/AbstractStringBuilder")], none⟩ := by decide +kernel
theorem pd_10 : parseMethodDescriptor "(Ljava/lang/AbstractStringBuilder;)Ljava/lang/AbstractStringBuilder;" = some ⟨[(.object "java/lang/AbstractStringBuilder")], some (.object "java/lang/AbstractStringBuilder")⟩ := by decide +kernel
theorem pd_11 : parseMethodDescriptor "(II)I" = some ⟨[.int, .int], some .int⟩ := by decide +kernel
theorem pd_12 : parseMethodDescriptor "(II)V" = some ⟨[.int, .int], none⟩ := by decide +kernel
theorem pd_13 : parseMethodDescriptor "([BII)[B" = some ⟨[(.array .byte), .int, .int], some (.array .byte)⟩ := by decide +kernel
theorem pd_14 : parseMethodDescriptor "()[B" = some ⟨[], some (.array .byte)⟩ := by decide +kernel
theorem pd_15 : parseMethodDescriptor "()Z" = some ⟨[], some .boolean⟩ := by decide +kernel
theorem pd_16 : parseMethodDescriptor "(Ljava/lang/AbstractStringBuilder;Ljava/lang/Void;)V" = some ⟨[(.object "java/lang/AbstractStringBuilder"), (.object "java/lang/Void")], none⟩ := by decide +kernel
theorem pd_17 : parseMethodDescriptor "(Ljava/lang/StringBuilder;)V" = some ⟨[(.object "java/lang/StringBuilder")], none⟩ := by decide +kernel
theorem pd_18 : parseMethodDescriptor "()V" = some ⟨[], none⟩ := by decide +kernel
theorem pd_19 : parseMethodDescriptor "(Ljava/lang/CharSequence;)Ljava/lang/StringBuilder;" = some ⟨[(.object "java/lang/CharSequence")], some (.object "java/lang/StringBuilder")⟩ := by decide +kernel
theorem pd_20 : parseMethodDescriptor "([II)[I" = some ⟨[(.array .int), .int], some (.array .int)⟩ := by decide +kernel
theorem pd_21 : parseMethodDescriptor "(Ljava/lang/CharSequence;II)Lcom/example/amendatory/amendatory/Paragraphs$Builder;" = some ⟨[(.object "java/lang/CharSequence"), .int, .int], some (.object "com/example/amendatory/amendatory/Paragraphs$Builder")⟩ := by decide +kernel
theorem pd_22 : parseMethodDescriptor "()Ljava/lang/String;" = some ⟨[], some (.object "java/lang/String")⟩ := by decide +kernel
theorem pd_23 : parseMethodDescriptor "(Ljava/lang/String;[III)V" = some ⟨[(.object "java/lang/String"), (.array .int), .int, .int], none⟩ := by decide +kernel
theorem pd_24 : parseMethodDescriptor "([B[B)Z" = some ⟨[(.array .byte), (.array .byte)], some .boolean⟩ := by decide +kernel
theorem pd_25 : parseMethodDescriptor "(IIILjava/util/function/BiFunction;)I" = some ⟨[.int, .int, .int, (.object "java/util/function/BiFunction")], some .int⟩ := by decide +kernel
theorem pd_26 : parseMethodDescriptor "([BB)V" = some ⟨[(.array .byte), .byte], none⟩ := by decide +kernel
theorem pd_27 : parseMethodDescriptor "(III)V" = some ⟨[.int, .int, .int], none⟩ := by decide +kernel
theorem pd_28 : parseMethodDescriptor "([BII)Ljava/lang/String;" = some ⟨[(.array .byte), .int, .int], some (.object "java/lang/String")⟩ := by decide +kernel
theorem pd_29 : parseMethodDescriptor "(II)Ljava/lang/String;" = some ⟨[.int, .int], some (.object "java/lang/String")⟩ := by decide +kernel
theorem pd_30 : parseMethodDescriptor "(I)Ljava/lang/String;" = some ⟨[.int], some (.object "java/lang/String")⟩ := by decide +kernel
theorem pd_31 : parseMethodDescriptor "(Ljava/lang/Object;)Z" = some ⟨[(.object "java/lang/Object")], some .boolean⟩ := by decide +kernel
theorem pd_32 : parseMethodDescriptor "(C)Ljava/lang/String;" = some ⟨[.char], some (.object "java/lang/String")⟩ := by decide +kernel
theorem pd_33 : parseMethodDescriptor "(C)Z" = some ⟨[.char], some .boolean⟩ := by decide +kernel
theorem pd_34 : parseMethodDescriptor "(C)[B" = some ⟨[.char], some (.array .byte)⟩ := by decide +kernel
theorem pd_35 : parseMethodDescriptor "([C)V" = some ⟨[(.array .char)], none⟩ := by decide +kernel
theorem pd_36 : parseMethodDescriptor "([CIILjava/lang/Void;)V" = some ⟨[(.array .char), .int, .int, (.object "java/lang/Void")], none⟩ := by decide +kernel
theorem pd_37 : parseMethodDescriptor "([CII)[B" = some ⟨[(.array .char), .int, .int], some (.array .byte)⟩ := by decide +kernel
theorem pd_38 : parseMethodDescriptor "([CI[BII)I" = some ⟨[(.array .char), .int, (.array .byte), .int, .int], some .int⟩ := by decide +kernel
theorem pd_39 : parseMethodDescriptor "([BI)B" = some ⟨[(.array .byte), .int], some .byte⟩ := by decide +kernel
theorem pd_40 : parseMethodDescriptor "()Lcom/example/amendatory/amendatory/Paragraphs;" = some ⟨[], some (.object "com/example/amendatory/amendatory/Paragraphs")⟩ := by decide +kernel
theorem pd_41 : parseMethodDescriptor "(Lcom/example/amendatory/amendatory/Paragraphs;ILjava/lang/String;Ljava/lang/String;)Z" = some ⟨[(.object "com/example/amendatory/amendatory/Paragraphs"), .int, (.object "java/lang/String"), (.object "java/lang/String")], some .boolean⟩ := by decide +kernel
theorem pd_42 : parseMethodDescriptor "(Ljava/lang/CharSequence;)Lcom/example/amendatory/amendatory/Paragraphs$Builder;" = some ⟨[(.object "java/lang/CharSequence")], some (.object "com/example/amendatory/amendatory/Paragraphs$Builder")⟩ := by decide +kernel
theorem wd {a0 : Array Value} {Z : State} (hw : ∀ d ∈ tables_1, d.before a0 Z = true) (i : Nat) {d : Cond} (h : tables_1[i]? = some d := by rfl) : d.before a0 Z = true := hw _ (List.mem_of_getElem? h)
theorem own_wS {a0 : Array Value} {Z : State} (hw : ∀ d ∈ tables_1, d.before a0 Z = true) : ∀ d ∈ Bundle.stringAtoms, d.before a0 Z = true := by
  intro d hd
  simp only [Bundle.stringAtoms, List.mem_cons, List.not_mem_nil, or_false] at hd
  rcases hd with rfl | rfl | rfl | rfl | rfl | rfl | rfl
  · exact (wd hw 5)
  · exact (wd hw 6)
  · exact (wd hw 7)
  · exact (wd hw 8)
  · exact (wd hw 9)
  · exact (wd hw 10)
  · exact (wd hw 11)
theorem lat0 (y : Int32) : ¬ (255 : Int32) < ((y &&& (255 : Int32)).toUInt32.toUInt16.toUInt32.toInt32) := by
  rw [Int32.lt_iff_toInt_lt]
  have h1 := c_i2c (y &&& (255 : Int32))
  have h2 := c_mask y 255 8 (by decide) (by decide)
  have e : (255 : Int32).toInt = 255 := rfl
  omega
theorem latn (y : Int32) : ¬ (255 : Int32) < (nar .char ((y &&& (255 : Int32)).toUInt32.toUInt16.toUInt32.toInt32)) := by
  show ¬ (255 : Int32) < ((((y &&& (255 : Int32)).toUInt32.toUInt16.toUInt32.toInt32)).toUInt32.toUInt16.toUInt32.toInt32)
  rw [Int32.lt_iff_toInt_lt]
  have h0 := c_i2c ((y &&& (255 : Int32)).toUInt32.toUInt16.toUInt32.toInt32)
  have h1 := c_i2c (y &&& (255 : Int32))
  have h2 := c_mask y 255 8 (by decide) (by decide)
  have e : (255 : Int32).toInt = 255 := rfl
  omega
theorem d15_0 : decode jdk_42_method_152_code 0 = .ok (.getstatic 38, 3) := by decide +kernel
theorem d15_3 : decode jdk_42_method_152_code 3 = .ok (.ifCond .eq 10, 3) := by decide +kernel
theorem d15_6 : decode jdk_42_method_152_code 6 = .ok (.aload_n 0, 1) := by decide +kernel
theorem d15_7 : decode jdk_42_method_152_code 7 = .ok (.getfield 15, 3) := by decide +kernel
theorem d15_10 : decode jdk_42_method_152_code 10 = .ok (.goto 4, 3) := by decide +kernel
theorem d15_14 : decode jdk_42_method_152_code 14 = .ok (.ireturn, 1) := by decide +kernel
set_option maxRecDepth 65536 in
set_option maxHeartbeats 40000000 in
theorem own_coder (l : Launch) (Z : State) (a0 : Array Value) (hw : ∀ d ∈ tables_1, d.before a0 Z = true) (n0 : Nat) (h0 : Heap) (cs : Int32) (SC : Sta Z h0 ST "COMPACT_STRINGS" "Z" (.int cs)) (hcs : ¬ cs = (0 : Int32)) (a va : Addr) (n : Nat) (f : Nat → Value) (S : Str Z h0 a va n f) :
    Met false l Z n0 (⟨ST, "coder", "()B"⟩ : MethodName) jdk_42_method_152_code 1 (some .byte) ({ frames := 0, cells := 0, slots := 0, locals := 0 } : Room) #[(.ref a)] h0 (fun r h => r = some (.int (0 : Int32)) ∧ h0 = h) := by
  refine Met.of (plainFor_of_name pn_0) #[.val (.ref a)] (fun m => by first | (simp [entryFrame, mkF, argsToLocals, Value.category]; done) | rfl) ?_
  intro p e s m below meth c C
  refine Wk.getS C (wd hw 66) SC d15_0 ?_
  show Wk _ p l e _ s m _ below meth c n0 _ h0 0 0 (mkF m 3 #[.val (.ref a)] [(.int cs)])
  refine Wk.ifN C d15_3 (XT.i0_eq_f hcs) ?_
  refine Wk.ald C d15_6 rfl rfl ?_
  refine Wk.getF C (wd hw 77) Via.refl S.2.2.1 d15_7 ?_
  show Wk _ p l e _ s m _ below meth c n0 _ h0 0 0 (mkF m 10 #[.val (.ref a)] [(.int (0 : Int32))])
  refine Wk.gto C (pc' := 14) d15_10 (by decide) (by decide) ?_
  exact Wk.retV C (t := .byte) rfl rfl (Or.inl ⟨rfl, by simp, _, rfl⟩) d15_14 (by decide) (by decide) ⟨rfl, rfl⟩
theorem d14_0 : decode jdk_42_method_54_code 0 = .ok (.aload_n 0, 1) := by decide +kernel
theorem d14_1 : decode jdk_42_method_54_code 1 = .ok (.getfield 9, 3) := by decide +kernel
theorem d14_4 : decode jdk_42_method_54_code 4 = .ok (.arraylength, 1) := by decide +kernel
theorem d14_5 : decode jdk_42_method_54_code 5 = .ok (.aload_n 0, 1) := by decide +kernel
theorem d14_6 : decode jdk_42_method_54_code 6 = .ok (.invokevirtual 335, 3) := by decide +kernel
theorem d14_9 : decode jdk_42_method_54_code 9 = .ok (.ishr, 1) := by decide +kernel
theorem d14_10 : decode jdk_42_method_54_code 10 = .ok (.ireturn, 1) := by decide +kernel
set_option maxRecDepth 65536 in
set_option maxHeartbeats 40000000 in
theorem own_len (l : Launch) (Z : State) (a0 : Array Value) (hw : ∀ d ∈ tables_1, d.before a0 Z = true) (n0 : Nat) (h0 : Heap) (cs : Int32) (SC : Sta Z h0 ST "COMPACT_STRINGS" "Z" (.int cs)) (hcs : ¬ cs = (0 : Int32)) (a va : Addr) (n : Nat) (f : Nat → Value) (S : Str Z h0 a va n f) :
    Met false l Z n0 (⟨ST, "length", "()I"⟩ : MethodName) jdk_42_method_54_code 1 (some .int) ({ frames := 1, cells := 0, slots := 0, locals := 13 } : Room) #[(.ref a)] h0 (fun r h => r = some (.int (Int32.ofNat n)) ∧ h0 = h) := by
  refine Met.of (plainFor_of_name pn_0) #[.val (.ref a)] (fun m => by first | (simp [entryFrame, mkF, argsToLocals, Value.category]; done) | rfl) ?_
  intro p e s m below meth c C
  refine Wk.ald C d14_0 rfl rfl ?_
  refine Wk.getF C (wd hw 78) Via.refl S.2.1 d14_1 ?_
  show Wk _ p l e _ s m _ below meth c n0 _ h0 0 0 (mkF m 4 #[.val (.ref a)] [(.ref va)])
  refine Wk.fLen C S.2.2.2.1 (z := (Int32.ofNat n)) rfl d14_4 ?_
  show Wk _ p l e _ s m _ below meth c n0 _ h0 0 0 (mkF m 5 #[.val (.ref a)] [(.int (Int32.ofNat n))])
  refine Wk.ald C d14_5 rfl rfl ?_
  refine Wk.callV C (x := (⟨ST, "coder", "()B"⟩ : MethodName)) (z := (⟨ST, "coder", "()B"⟩ : MethodName)) (K := ST) (wd hw 93) (wd hw 94) (wd hw 96) (wd hw 95) (wd hw 5) (wd hw 97) (by decide) (fun s' hZ' => notFace_of_selects (args := #[]) (mvT hZ' (wd hw 96))) S.1 (own_coder l Z a0 hw n0 h0 cs SC hcs a va n f S) (w := 1) (by decide) (by decide) pd_0 rfl (rest := [(.int (Int32.ofNat n))]) rfl rfl (Nat.le_of_eq rfl) (by decide) (by decide) d14_6 ?_
  rintro _ _ ⟨rfl, rfl⟩
  show Wk _ p l e _ s m _ below meth c n0 _ h0 0 0 (mkF m 9 #[.val (.ref a)] [(.int (0 : Int32)), (.int (Int32.ofNat n))])
  refine Wk.st (g' := (mkF m 10 #[.val (.ref a)] [(.int ((Int32.ofNat n) >>> ((0 : Int32) &&& 31)))])) (fun X t q => XS.ishr X.here C.hx rfl (hb C.hby d14_9) rfl q) ?_
  rw [show ((Int32.ofNat n) >>> ((0 : Int32) &&& 31)) = (Int32.ofNat n) from sh0 _]
  show Wk _ p l e _ s m _ below meth c n0 _ h0 0 0 (mkF m 10 #[.val (.ref a)] [(.int (Int32.ofNat n))])
  exact Wk.retV C (t := .int) rfl rfl (Or.inl ⟨rfl, by simp, _, rfl⟩) d14_10 (by decide) (by decide) ⟨rfl, rfl⟩
theorem d53_0 : decode jdk_42_method_154_code 0 = .ok (.getstatic 38, 3) := by decide +kernel
theorem d53_3 : decode jdk_42_method_154_code 3 = .ok (.ifCond .eq 14, 3) := by decide +kernel
theorem d53_6 : decode jdk_42_method_154_code 6 = .ok (.aload_n 0, 1) := by decide +kernel
theorem d53_7 : decode jdk_42_method_154_code 7 = .ok (.getfield 15, 3) := by decide +kernel
theorem d53_10 : decode jdk_42_method_154_code 10 = .ok (.ifCond .ne 7, 3) := by decide +kernel
theorem d53_13 : decode jdk_42_method_154_code 13 = .ok (.iconst 1, 1) := by decide +kernel
theorem d53_14 : decode jdk_42_method_154_code 14 = .ok (.goto 4, 3) := by decide +kernel
theorem d53_18 : decode jdk_42_method_154_code 18 = .ok (.ireturn, 1) := by decide +kernel
set_option maxRecDepth 65536 in
set_option maxHeartbeats 40000000 in
theorem own_isL (l : Launch) (Z : State) (a0 : Array Value) (hw : ∀ d ∈ tables_1, d.before a0 Z = true) (n0 : Nat) (h0 : Heap) (cs : Int32) (SC : Sta Z h0 ST "COMPACT_STRINGS" "Z" (.int cs)) (hcs : ¬ cs = (0 : Int32)) (a va : Addr) (n : Nat) (f : Nat → Value) (S : Str Z h0 a va n f) :
    Met false l Z n0 (⟨ST, "isLatin1", "()Z"⟩ : MethodName) jdk_42_method_154_code 1 (some .boolean) ({ frames := 0, cells := 0, slots := 0, locals := 0 } : Room) #[(.ref a)] h0 (fun r h => r = some (.int (1 : Int32)) ∧ h0 = h) := by
  refine Met.of (plainFor_of_name pn_0) #[.val (.ref a)] (fun m => by first | (simp [entryFrame, mkF, argsToLocals, Value.category]; done) | rfl) ?_
  intro p e s m below meth c C
  refine Wk.getS C (wd hw 66) SC d53_0 ?_
  show Wk _ p l e _ s m _ below meth c n0 _ h0 0 0 (mkF m 3 #[.val (.ref a)] [(.int cs)])
  refine Wk.ifN C d53_3 (XT.i0_eq_f hcs) ?_
  refine Wk.ald C d53_6 rfl rfl ?_
  refine Wk.getF C (wd hw 77) Via.refl S.2.2.1 d53_7 ?_
  show Wk _ p l e _ s m _ below meth c n0 _ h0 0 0 (mkF m 10 #[.val (.ref a)] [(.int (0 : Int32))])
  refine Wk.ifN C d53_10 (XT.i0_ne_f (by decide)) ?_
  refine Wk.st (g' := (mkF m 14 #[.val (.ref a)] [(.int (1 : Int32))])) (fun X t q => XS.iconst X.here C.hx rfl (hb C.hby d53_13) q) ?_
  refine Wk.gto C (pc' := 18) d53_14 (by decide) (by decide) ?_
  exact Wk.retV C (t := .boolean) rfl rfl (Or.inl ⟨rfl, by simp, _, rfl⟩) d53_18 (by decide) (by decide) ⟨rfl, rfl⟩
theorem d18_0 : decode jdk_29_method_65_code 0 = .ok (.iload_n 0, 1) := by decide +kernel
theorem d18_1 : decode jdk_29_method_65_code 1 = .ok (.iload_n 1, 1) := by decide +kernel
theorem d18_2 : decode jdk_29_method_65_code 2 = .ok (.if_icmp .lt 7, 3) := by decide +kernel
theorem d18_5 : decode jdk_29_method_65_code 5 = .ok (.iload_n 0, 1) := by decide +kernel
theorem d18_6 : decode jdk_29_method_65_code 6 = .ok (.goto 4, 3) := by decide +kernel
theorem d18_9 : decode jdk_29_method_65_code 9 = .ok (.iload_n 1, 1) := by decide +kernel
theorem d18_10 : decode jdk_29_method_65_code 10 = .ok (.ireturn, 1) := by decide +kernel
set_option maxRecDepth 65536 in
set_option maxHeartbeats 40000000 in
theorem own_max (l : Launch) (Z : State) (a0 : Array Value) (hw : ∀ d ∈ tables_1, d.before a0 Z = true) (n0 : Nat) (h0 : Heap) (x y : Nat) (hx : x < 2147483648) (hy : y < 2147483648) :
    Met false l Z n0 (⟨"java/lang/Math", "max", "(II)I"⟩ : MethodName) jdk_29_method_65_code 2 (some .int) ({ frames := 0, cells := 0, slots := 0, locals := 0 } : Room) #[(.int (Int32.ofNat x)), (.int (Int32.ofNat y))] h0 (fun r h => r = some (.int (Int32.ofNat (max x y))) ∧ h0 = h) := by
  refine Met.of (by decide +kernel) #[.val (.int (Int32.ofNat x)), .val (.int (Int32.ofNat y))] (fun m => by first | (simp [entryFrame, mkF, argsToLocals, Value.category]; done) | rfl) ?_
  intro p e s m below meth c C
  refine Wk.ild C d18_0 rfl ?_
  refine Wk.ild C d18_1 rfl ?_
  by_cases hb1 : (Int32.ofNat x) < (Int32.ofNat y)
  · skip
    refine Wk.icY C (pc' := 9) d18_2 (XT.ii_lt_t hb1) (by decide) (by decide) ?_
    refine Wk.ild C d18_9 rfl ?_
    exact Wk.retV C (t := .int) rfl rfl (Or.inl ⟨rfl, by simp, _, rfl⟩) d18_10 (by decide) (by decide) ⟨congrArg (fun z => some (Value.int (Int32.ofNat z))) (show y = max x y by have := (lt32 hx hy).mp hb1; omega), rfl⟩
  · skip
    refine Wk.icN C d18_2 (XT.ii_lt_f hb1) ?_
    refine Wk.ild C d18_5 rfl ?_
    refine Wk.gto C (pc' := 10) d18_6 (by decide) (by decide) ?_
    exact Wk.retV C (t := .int) rfl rfl (Or.inl ⟨rfl, by simp, _, rfl⟩) d18_10 (by decide) (by decide) ⟨congrArg (fun z => some (Value.int (Int32.ofNat z))) (show x = max x y by have := mt (lt32 hx hy).mpr hb1; omega), rfl⟩
theorem d35_0 : decode jdk_29_method_69_code 0 = .ok (.iload_n 0, 1) := by decide +kernel
theorem d35_1 : decode jdk_29_method_69_code 1 = .ok (.iload_n 1, 1) := by decide +kernel
theorem d35_2 : decode jdk_29_method_69_code 2 = .ok (.if_icmp .gt 7, 3) := by decide +kernel
theorem d35_5 : decode jdk_29_method_69_code 5 = .ok (.iload_n 0, 1) := by decide +kernel
theorem d35_6 : decode jdk_29_method_69_code 6 = .ok (.goto 4, 3) := by decide +kernel
theorem d35_9 : decode jdk_29_method_69_code 9 = .ok (.iload_n 1, 1) := by decide +kernel
theorem d35_10 : decode jdk_29_method_69_code 10 = .ok (.ireturn, 1) := by decide +kernel
set_option maxRecDepth 65536 in
set_option maxHeartbeats 40000000 in
theorem own_min (l : Launch) (Z : State) (a0 : Array Value) (hw : ∀ d ∈ tables_1, d.before a0 Z = true) (n0 : Nat) (h0 : Heap) (x y : Nat) (hx : x < 2147483648) (hy : y < 2147483648) :
    Met false l Z n0 (⟨"java/lang/Math", "min", "(II)I"⟩ : MethodName) jdk_29_method_69_code 2 (some .int) ({ frames := 0, cells := 0, slots := 0, locals := 0 } : Room) #[(.int (Int32.ofNat x)), (.int (Int32.ofNat y))] h0 (fun r h => r = some (.int (Int32.ofNat (min x y))) ∧ h0 = h) := by
  refine Met.of (by decide +kernel) #[.val (.int (Int32.ofNat x)), .val (.int (Int32.ofNat y))] (fun m => by first | (simp [entryFrame, mkF, argsToLocals, Value.category]; done) | rfl) ?_
  intro p e s m below meth c C
  refine Wk.ild C d35_0 rfl ?_
  refine Wk.ild C d35_1 rfl ?_
  by_cases hb1 : (Int32.ofNat y) < (Int32.ofNat x)
  · skip
    refine Wk.icY C (pc' := 9) d35_2 (XT.ii_gt_t hb1) (by decide) (by decide) ?_
    refine Wk.ild C d35_9 rfl ?_
    exact Wk.retV C (t := .int) rfl rfl (Or.inl ⟨rfl, by simp, _, rfl⟩) d35_10 (by decide) (by decide) ⟨congrArg (fun z => some (Value.int (Int32.ofNat z))) (show y = min x y by have := (lt32 hy hx).mp hb1; omega), rfl⟩
  · skip
    refine Wk.icN C d35_2 (XT.ii_gt_f hb1) ?_
    refine Wk.ild C d35_5 rfl ?_
    refine Wk.gto C (pc' := 10) d35_6 (by decide) (by decide) ?_
    exact Wk.retV C (t := .int) rfl rfl (Or.inl ⟨rfl, by simp, _, rfl⟩) d35_10 (by decide) (by decide) ⟨congrArg (fun z => some (Value.int (Int32.ofNat z))) (show x = min x y by have := mt (lt32 hy hx).mpr hb1; omega), rfl⟩
theorem d22_0 : decode jdk_68_method_6_code 0 = .ok (.aload_n 0, 1) := by decide +kernel
theorem d22_1 : decode jdk_68_method_6_code 1 = .ok (.getfield 79, 3) := by decide +kernel
theorem d22_4 : decode jdk_68_method_6_code 4 = .ok (.ireturn, 1) := by decide +kernel
set_option maxRecDepth 65536 in
set_option maxHeartbeats 40000000 in
theorem own_alen (l : Launch) (Z : State) (a0 : Array Value) (hw : ∀ d ∈ tables_1, d.before a0 Z = true) (n0 : Nat) (h0 : Heap) (o vo : Addr) (cp no : Nat) (g : Nat → Value) (B : Sb Z h0 o vo cp no g) :
    Met false l Z n0 (⟨AB, "length", "()I"⟩ : MethodName) jdk_68_method_6_code 1 (some .int) ({ frames := 0, cells := 0, slots := 0, locals := 0 } : Room) #[(.ref o)] h0 (fun r h => r = some (.int (Int32.ofNat no)) ∧ h0 = h) := by
  refine Met.of (plainFor_of_name pn_1) #[.val (.ref o)] (fun m => by first | (simp [entryFrame, mkF, argsToLocals, Value.category]; done) | rfl) ?_
  intro p e s m below meth c C
  refine Wk.ald C d22_0 rfl rfl ?_
  refine Wk.getF C (wd hw 139) Via.refl B.2.2.2.1 d22_1 ?_
  show Wk _ p l e _ s m _ below meth c n0 _ h0 0 0 (mkF m 4 #[.val (.ref o)] [(.int (Int32.ofNat no))])
  exact Wk.retV C (t := .int) rfl rfl (Or.inl ⟨rfl, by simp, _, rfl⟩) d22_4 (by decide) (by decide) ⟨rfl, rfl⟩
theorem d21_0 : decode jdk_67_method_93_code 0 = .ok (.aload_n 0, 1) := by decide +kernel
theorem d21_1 : decode jdk_67_method_93_code 1 = .ok (.invokespecial 343, 3) := by decide +kernel
theorem d21_4 : decode jdk_67_method_93_code 4 = .ok (.ireturn, 1) := by decide +kernel
set_option maxRecDepth 65536 in
set_option maxHeartbeats 40000000 in
theorem own_slen (l : Launch) (Z : State) (a0 : Array Value) (hw : ∀ d ∈ tables_1, d.before a0 Z = true) (n0 : Nat) (h0 : Heap) (o vo : Addr) (cp no : Nat) (g : Nat → Value) (B : Sb Z h0 o vo cp no g) :
    Met false l Z n0 (⟨SBN, "length", "()I"⟩ : MethodName) jdk_67_method_93_code 1 (some .int) ({ frames := 1, cells := 0, slots := 0, locals := 12 } : Room) #[(.ref o)] h0 (fun r h => r = some (.int (Int32.ofNat no)) ∧ h0 = h) := by
  refine Met.of (plainFor_of_name pn_2) #[.val (.ref o)] (fun m => by first | (simp [entryFrame, mkF, argsToLocals, Value.category]; done) | rfl) ?_
  intro p e s m below meth c C
  refine Wk.ald C d21_0 rfl rfl ?_
  refine Wk.callSup C (z := (⟨AB, "length", "()I"⟩ : MethodName)) (K := SBN) (wd hw 134) (same_self (wd hw 135) (hw _ (List.mem_of_getElem? (i := 179) rfl)) rfl (by decide)) (wd hw 135) (wd hw 136) (wd hw 121) (wd hw 138) (by decide) B.1 (own_alen l Z a0 hw n0 h0 o vo cp no g B) (w := 0) (by decide) (by decide) pd_1 rfl (rest := []) rfl rfl (Nat.le_of_eq rfl) (by decide) (by decide) d21_1 ?_
  rintro _ _ ⟨rfl, rfl⟩
  show Wk _ p l e _ s m _ below meth c n0 _ h0 0 0 (mkF m 4 #[.val (.ref o)] [(.int (Int32.ofNat no))])
  exact Wk.retV C (t := .int) rfl rfl (Or.inl ⟨rfl, by simp, _, rfl⟩) d21_4 (by decide) (by decide) ⟨rfl, rfl⟩
theorem d24_0 : decode jdk_68_method_7_code 0 = .ok (.aload_n 0, 1) := by decide +kernel
theorem d24_1 : decode jdk_68_method_7_code 1 = .ok (.getfield 15, 3) := by decide +kernel
theorem d24_4 : decode jdk_68_method_7_code 4 = .ok (.arraylength, 1) := by decide +kernel
theorem d24_5 : decode jdk_68_method_7_code 5 = .ok (.aload_n 0, 1) := by decide +kernel
theorem d24_6 : decode jdk_68_method_7_code 6 = .ok (.getfield 22, 3) := by decide +kernel
theorem d24_9 : decode jdk_68_method_7_code 9 = .ok (.ishr, 1) := by decide +kernel
theorem d24_10 : decode jdk_68_method_7_code 10 = .ok (.ireturn, 1) := by decide +kernel
set_option maxRecDepth 65536 in
set_option maxHeartbeats 40000000 in
theorem own_acap (l : Launch) (Z : State) (a0 : Array Value) (hw : ∀ d ∈ tables_1, d.before a0 Z = true) (n0 : Nat) (h0 : Heap) (o vo : Addr) (cp no : Nat) (g : Nat → Value) (B : Sb Z h0 o vo cp no g) :
    Met false l Z n0 (⟨AB, "capacity", "()I"⟩ : MethodName) jdk_68_method_7_code 1 (some .int) ({ frames := 0, cells := 0, slots := 0, locals := 0 } : Room) #[(.ref o)] h0 (fun r h => r = some (.int (Int32.ofNat cp)) ∧ h0 = h) := by
  refine Met.of (plainFor_of_name pn_1) #[.val (.ref o)] (fun m => by first | (simp [entryFrame, mkF, argsToLocals, Value.category]; done) | rfl) ?_
  intro p e s m below meth c C
  refine Wk.ald C d24_0 rfl rfl ?_
  refine Wk.getF C (wd hw 125) Via.refl B.2.1 d24_1 ?_
  show Wk _ p l e _ s m _ below meth c n0 _ h0 0 0 (mkF m 4 #[.val (.ref o)] [(.ref vo)])
  refine Wk.fLen C B.2.2.2.2.2.1 (z := (Int32.ofNat cp)) rfl d24_4 ?_
  show Wk _ p l e _ s m _ below meth c n0 _ h0 0 0 (mkF m 5 #[.val (.ref o)] [(.int (Int32.ofNat cp))])
  refine Wk.ald C d24_5 rfl rfl ?_
  refine Wk.getF C (wd hw 127) Via.refl B.2.2.1 d24_6 ?_
  show Wk _ p l e _ s m _ below meth c n0 _ h0 0 0 (mkF m 9 #[.val (.ref o)] [(.int (0 : Int32)), (.int (Int32.ofNat cp))])
  refine Wk.st (g' := (mkF m 10 #[.val (.ref o)] [(.int ((Int32.ofNat cp) >>> ((0 : Int32) &&& 31)))])) (fun X t q => XS.ishr X.here C.hx rfl (hb C.hby d24_9) rfl q) ?_
  rw [show ((Int32.ofNat cp) >>> ((0 : Int32) &&& 31)) = (Int32.ofNat cp) from sh0 _]
  show Wk _ p l e _ s m _ below meth c n0 _ h0 0 0 (mkF m 10 #[.val (.ref o)] [(.int (Int32.ofNat cp))])
  exact Wk.retV C (t := .int) rfl rfl (Or.inl ⟨rfl, by simp, _, rfl⟩) d24_10 (by decide) (by decide) ⟨rfl, rfl⟩
theorem d23_0 : decode jdk_67_method_92_code 0 = .ok (.aload_n 0, 1) := by decide +kernel
theorem d23_1 : decode jdk_67_method_92_code 1 = .ok (.invokespecial 342, 3) := by decide +kernel
theorem d23_4 : decode jdk_67_method_92_code 4 = .ok (.ireturn, 1) := by decide +kernel
set_option maxRecDepth 65536 in
set_option maxHeartbeats 40000000 in
theorem own_scap (l : Launch) (Z : State) (a0 : Array Value) (hw : ∀ d ∈ tables_1, d.before a0 Z = true) (n0 : Nat) (h0 : Heap) (o vo : Addr) (cp no : Nat) (g : Nat → Value) (B : Sb Z h0 o vo cp no g) :
    Met false l Z n0 (⟨SBN, "capacity", "()I"⟩ : MethodName) jdk_67_method_92_code 1 (some .int) ({ frames := 1, cells := 0, slots := 0, locals := 12 } : Room) #[(.ref o)] h0 (fun r h => r = some (.int (Int32.ofNat cp)) ∧ h0 = h) := by
  refine Met.of (plainFor_of_name pn_2) #[.val (.ref o)] (fun m => by first | (simp [entryFrame, mkF, argsToLocals, Value.category]; done) | rfl) ?_
  intro p e s m below meth c C
  refine Wk.ald C d23_0 rfl rfl ?_
  refine Wk.callSup C (z := (⟨AB, "capacity", "()I"⟩ : MethodName)) (K := SBN) (wd hw 146) (same_self (wd hw 147) (hw _ (List.mem_of_getElem? (i := 179) rfl)) rfl (by decide)) (wd hw 147) (wd hw 136) (wd hw 121) (wd hw 149) (by decide) B.1 (own_acap l Z a0 hw n0 h0 o vo cp no g B) (w := 0) (by decide) (by decide) pd_1 rfl (rest := []) rfl rfl (Nat.le_of_eq rfl) (by decide) (by decide) d23_1 ?_
  rintro _ _ ⟨rfl, rfl⟩
  show Wk _ p l e _ s m _ below meth c n0 _ h0 0 0 (mkF m 4 #[.val (.ref o)] [(.int (Int32.ofNat cp))])
  exact Wk.retV C (t := .int) rfl rfl (Or.inl ⟨rfl, by simp, _, rfl⟩) d23_4 (by decide) (by decide) ⟨rfl, rfl⟩
theorem d30_0 : decode jdk_68_method_9_code 0 = .ok (.aload_n 0, 1) := by decide +kernel
theorem d30_1 : decode jdk_68_method_9_code 1 = .ok (.getfield 15, 3) := by decide +kernel
theorem d30_4 : decode jdk_68_method_9_code 4 = .ok (.arraylength, 1) := by decide +kernel
theorem d30_5 : decode jdk_68_method_9_code 5 = .ok (.aload_n 0, 1) := by decide +kernel
theorem d30_6 : decode jdk_68_method_9_code 6 = .ok (.getfield 22, 3) := by decide +kernel
theorem d30_9 : decode jdk_68_method_9_code 9 = .ok (.ishr, 1) := by decide +kernel
theorem d30_10 : decode jdk_68_method_9_code 10 = .ok (.istore_n 2, 1) := by decide +kernel
theorem d30_11 : decode jdk_68_method_9_code 11 = .ok (.iload_n 1, 1) := by decide +kernel
theorem d30_12 : decode jdk_68_method_9_code 12 = .ok (.iload_n 2, 1) := by decide +kernel
theorem d30_13 : decode jdk_68_method_9_code 13 = .ok (.isub, 1) := by decide +kernel
theorem d30_14 : decode jdk_68_method_9_code 14 = .ok (.ifCond .le 24, 3) := by decide +kernel
theorem d30_38 : decode jdk_68_method_9_code 38 = .ok (.return_, 1) := by decide +kernel
set_option maxRecDepth 65536 in
set_option maxHeartbeats 40000000 in
theorem own_ens (l : Launch) (Z : State) (a0 : Array Value) (hw : ∀ d ∈ tables_1, d.before a0 Z = true) (n0 : Nat) (h0 : Heap) (o vo : Addr) (cp no : Nat) (g : Nat → Value) (B : Sb Z h0 o vo cp no g) (mn : Nat) (hm : mn ≤ cp) :
    Met false l Z n0 (⟨AB, "ensureCapacityInternal", "(I)V"⟩ : MethodName) jdk_68_method_9_code 3 none ({ frames := 0, cells := 0, slots := 0, locals := 0 } : Room) #[(.ref o), (.int (Int32.ofNat mn))] h0 (fun r h => r = none ∧ h0 = h) := by
  refine Met.of (plainFor_of_name pn_1) #[.val (.ref o), .val (.int (Int32.ofNat mn)), .unset] (fun m => by first | (simp [entryFrame, mkF, argsToLocals, Value.category]; done) | rfl) ?_
  intro p e s m below meth c C
  have hB := B.2.2.2.2.2.2.2.2.2
  refine Wk.ald C d30_0 rfl rfl ?_
  refine Wk.getF C (wd hw 125) Via.refl B.2.1 d30_1 ?_
  show Wk _ p l e _ s m _ below meth c n0 _ h0 0 0 (mkF m 4 #[.val (.ref o), .val (.int (Int32.ofNat mn)), .unset] [(.ref vo)])
  refine Wk.fLen C B.2.2.2.2.2.1 (z := (Int32.ofNat cp)) rfl d30_4 ?_
  show Wk _ p l e _ s m _ below meth c n0 _ h0 0 0 (mkF m 5 #[.val (.ref o), .val (.int (Int32.ofNat mn)), .unset] [(.int (Int32.ofNat cp))])
  refine Wk.ald C d30_5 rfl rfl ?_
  refine Wk.getF C (wd hw 127) Via.refl B.2.2.1 d30_6 ?_
  show Wk _ p l e _ s m _ below meth c n0 _ h0 0 0 (mkF m 9 #[.val (.ref o), .val (.int (Int32.ofNat mn)), .unset] [(.int (0 : Int32)), (.int (Int32.ofNat cp))])
  refine Wk.st (g' := (mkF m 10 #[.val (.ref o), .val (.int (Int32.ofNat mn)), .unset] [(.int ((Int32.ofNat cp) >>> ((0 : Int32) &&& 31)))])) (fun X t q => XS.ishr X.here C.hx rfl (hb C.hby d30_9) rfl q) ?_
  rw [show ((Int32.ofNat cp) >>> ((0 : Int32) &&& 31)) = (Int32.ofNat cp) from sh0 _]
  show Wk _ p l e _ s m _ below meth c n0 _ h0 0 0 (mkF m 10 #[.val (.ref o), .val (.int (Int32.ofNat mn)), .unset] [(.int (Int32.ofNat cp))])
  refine Wk.st (g' := (mkF m 11 #[.val (.ref o), .val (.int (Int32.ofNat mn)), .val (.int (Int32.ofNat cp))] [])) (fun X t q => XS.istoreN X.here C.hx rfl (hb C.hby d30_10) rfl (l' := #[.val (.ref o), .val (.int (Int32.ofNat mn)), .val (.int (Int32.ofNat cp))]) rfl q) ?_
  refine Wk.ild C d30_11 rfl ?_
  refine Wk.ild C d30_12 rfl ?_
  refine Wk.st (g' := (mkF m 14 #[.val (.ref o), .val (.int (Int32.ofNat mn)), .val (.int (Int32.ofNat cp))] [(.int ((Int32.ofNat mn) - (Int32.ofNat cp)))])) (fun X t q => XS.isub X.here C.hx rfl (hb C.hby d30_13) rfl q) ?_
  refine Wk.ifY C (pc' := 38) d30_14 (XT.i0_le_t (by rw [Int32.lt_iff_toInt_lt]; have q := c_isub (Int32.ofNat mn) (Int32.ofNat cp); rw [n32 (by omega), n32 (by omega)] at q; have := Int32.toInt_lt (Int32.ofNat mn - Int32.ofNat cp); have := Int32.le_toInt (Int32.ofNat mn - Int32.ofNat cp); have e : (0 : Int32).toInt = 0 := rfl; omega)) (by decide) (by decide) ?_
  exact Wk.retN0 C rfl d30_38 (by decide) (by decide) ⟨rfl, rfl⟩
theorem d20_0 : decode jdk_68_method_2_code 0 = .ok (.aload_n 0, 1) := by decide +kernel
theorem d20_1 : decode jdk_68_method_2_code 1 = .ok (.invokespecial 3, 3) := by decide +kernel
theorem d20_4 : decode jdk_68_method_2_code 4 = .ok (.getstatic 18, 3) := by decide +kernel
theorem d20_7 : decode jdk_68_method_2_code 7 = .ok (.ifCond .eq 18, 3) := by decide +kernel
theorem d20_10 : decode jdk_68_method_2_code 10 = .ok (.aload_n 0, 1) := by decide +kernel
theorem d20_11 : decode jdk_68_method_2_code 11 = .ok (.iload_n 1, 1) := by decide +kernel
theorem d20_12 : decode jdk_68_method_2_code 12 = .ok (.newarray .byte, 2) := by decide +kernel
theorem d20_14 : decode jdk_68_method_2_code 14 = .ok (.putfield 15, 3) := by decide +kernel
theorem d20_17 : decode jdk_68_method_2_code 17 = .ok (.aload_n 0, 1) := by decide +kernel
theorem d20_18 : decode jdk_68_method_2_code 18 = .ok (.iconst 0, 1) := by decide +kernel
theorem d20_19 : decode jdk_68_method_2_code 19 = .ok (.putfield 22, 3) := by decide +kernel
theorem d20_22 : decode jdk_68_method_2_code 22 = .ok (.goto 16, 3) := by decide +kernel
theorem d20_38 : decode jdk_68_method_2_code 38 = .ok (.return_, 1) := by decide +kernel
set_option maxRecDepth 65536 in
set_option maxHeartbeats 40000000 in
theorem own_ainit (l : Launch) (Z : State) (a0 : Array Value) (hw : ∀ d ∈ tables_1, d.before a0 Z = true) (n0 : Nat) (h0 : Heap) (cs : Int32) (SC : Sta Z h0 ST "COMPACT_STRINGS" "Z" (.int cs)) (hcs : ¬ cs = (0 : Int32)) (hsz : n0 ≤ h0.size) (o : Addr) (go : n0 ≤ o) (F0 : Exa Z h0 o SBN) (F1 : Fld Z h0 o AB "value" "[B" .null) (F2 : Fld Z h0 o AB "coder" "B" (.int (0 : Int32))) (F3 : Fld Z h0 o AB "count" "I" (.int (0 : Int32))) (F4 : Fld Z h0 o AB "maybeLatin1" "Z" (.int (0 : Int32))) (cp : Nat) (hcp : cp ≤ 64) :
    Met false l Z n0 (⟨AB, "<init>", "(I)V"⟩ : MethodName) jdk_68_method_2_code 2 none ({ frames := 1, cells := 1, slots := 64, locals := 12 } : Room) #[(.ref o), (.int (Int32.ofNat cp))] h0 (fun r h => ∃ vo : Addr, r = none ∧ Keep h0 h [o] ∧ h0.size ≤ vo ∧ Sb Z h o vo cp 0 (fun _ => .int 0)) := by
  refine Met.of (plainFor_of_name pn_1) #[.val (.ref o), .val (.int (Int32.ofNat cp))] (fun m => by first | (simp [entryFrame, mkF, argsToLocals, Value.category]; done) | rfl) ?_
  intro p e s m below meth c C
  refine Wk.ald C d20_0 rfl rfl ?_
  refine Wk.initO C (wd hw 123) (wd hw 19) (wd hw 20) (w := 0) rfl d20_1 (by decide) (Nat.le_of_eq rfl) (by decide) ?_
  show Wk _ p l e _ s m _ below meth c n0 _ h0 0 0 (mkF m 4 #[.val (.ref o), .val (.int (Int32.ofNat cp))] [])
  refine Wk.getS C (wd hw 124) SC d20_4 ?_
  show Wk _ p l e _ s m _ below meth c n0 _ h0 0 0 (mkF m 7 #[.val (.ref o), .val (.int (Int32.ofNat cp))] [(.int cs)])
  refine Wk.ifN C d20_7 (XT.i0_eq_f hcs) ?_
  refine Wk.ald C d20_10 rfl rfl ?_
  refine Wk.ild C d20_11 rfl ?_
  refine Wk.fNewP C (wd hw 7) (ty := .byte) (dv := (.int (0 : Int32))) (N := cp) (ad := "[B") rfl rfl (cl32 (by omega)) (by decide) (nn32 (by omega)) (cap := 64) (by omega) (by decide) d20_12 (by decide) (by decide) ?_
  intro h1 b2 g3 E4 A5 F6
  have ne7 : o ≠ b2 := Nat.ne_of_lt (Nat.lt_of_lt_of_le F0.lt (Nat.le_of_eq g3.symm))
  have ge8 : n0 ≤ b2 := Nat.le_trans hsz (Nat.le_of_eq g3.symm)
  have gz9 : h0.size ≤ b2 := Nat.le_trans (Nat.le_refl h0.size) (Nat.le_of_eq g3.symm)
  have F10 : Exa Z h1 o SBN := F0.ext E4
  have F11 : Fld Z h1 o AB "value" "[B" .null := F1.ext E4
  have F12 : Fld Z h1 o AB "coder" "B" (.int (0 : Int32)) := F2.ext E4
  have F13 : Fld Z h1 o AB "count" "I" (.int (0 : Int32)) := F3.ext E4
  have F14 : Fld Z h1 o AB "maybeLatin1" "Z" (.int (0 : Int32)) := F4.ext E4
  have F15 : Sta Z h1 ST "COMPACT_STRINGS" "Z" (.int cs) := SC.ext E4
  have sz16 : n0 ≤ h1.size := Nat.le_trans hsz E4.1
  have sy17 : h0.size ≤ h1.size := Nat.le_trans (Nat.le_refl h0.size) E4.1
  have K18 := (Keep.refl h0 [o]).ext E4
  show Wk _ p l e _ s m _ below meth c n0 _ h1 1 64 (mkF m 14 #[.val (.ref o), .val (.int (Int32.ofNat cp))] [(.ref b2), (.ref o)])
  refine Wk.putF C (wd hw 125) Via.refl F11 F10 (Or.inl (wd hw 126)) (wd hw 108) (ty := (.array .byte)) (by decide) (v' := (.ref b2)) rfl rfl go d20_14 ?_
  intro h19 W20
  have F21 : Fld Z h19 o AB "value" "[B" (.ref b2) := F11.same W20
  have F22 : Exa Z h19 o SBN := F10.wr W20
  have F23 : Fld Z h19 o AB "coder" "B" (.int (0 : Int32)) := F12.other W20 (Or.inr (slot_ne (Or.inl (wd hw 128)) (Or.inl (wd hw 126)) (by decide) (t := .byte) (t' := (.array .byte)) (by decide) (by decide)))
  have F24 : Fld Z h19 o AB "count" "I" (.int (0 : Int32)) := F13.other W20 (Or.inr (slot_ne (Or.inl (wd hw 140)) (Or.inl (wd hw 126)) (by decide) (t := .int) (t' := (.array .byte)) (by decide) (by decide)))
  have F25 : Fld Z h19 o AB "maybeLatin1" "Z" (.int (0 : Int32)) := F14.other W20 (Or.inr (slot_ne (Or.inl (wd hw 355)) (Or.inl (wd hw 126)) (by decide) (t := .boolean) (t' := (.array .byte)) (by decide) (by decide)))
  have F26 : Sta Z h19 ST "COMPACT_STRINGS" "Z" (.int cs) := F15.wr W20
  have F27 : Exa Z h19 b2 "[B" := A5.wr W20
  have F28 : Fa Z h19 b2 .byte cp (fun _ => (.int (0 : Int32))) := F6.other W20 (Ne.symm ne7)
  have sz29 : n0 ≤ h19.size := Nat.le_trans sz16 (Nat.le_of_eq W20.size.symm)
  have sy30 : h0.size ≤ h19.size := Nat.le_trans sy17 (Nat.le_of_eq W20.size.symm)
  have K31 := K18.wr W20 (Or.inl (by simp))
  show Wk _ p l e _ s m _ below meth c n0 _ h19 1 64 (mkF m 17 #[.val (.ref o), .val (.int (Int32.ofNat cp))] [])
  refine Wk.ald C d20_17 rfl rfl ?_
  refine Wk.st (g' := (mkF m 19 #[.val (.ref o), .val (.int (Int32.ofNat cp))] [(.int (0 : Int32)), (.ref o)])) (fun X t q => XS.iconst X.here C.hx rfl (hb C.hby d20_18) q) ?_
  refine Wk.putF C (wd hw 127) Via.refl F23 F22 (Or.inl (wd hw 128)) (wd hw 108) (ty := .byte) (by decide) (v' := (.int (0 : Int32))) rfl (by decide) go d20_19 ?_
  intro h32 W33
  have F34 : Fld Z h32 o AB "coder" "B" (.int (0 : Int32)) := F23.same W33
  have F35 : Exa Z h32 o SBN := F22.wr W33
  have F36 : Fld Z h32 o AB "count" "I" (.int (0 : Int32)) := F24.other W33 (Or.inr (slot_ne (Or.inl (wd hw 140)) (Or.inl (wd hw 128)) (by decide) (t := .int) (t' := .byte) (by decide) (by decide)))
  have F37 : Fld Z h32 o AB "maybeLatin1" "Z" (.int (0 : Int32)) := F25.other W33 (Or.inr (slot_ne (Or.inl (wd hw 355)) (Or.inl (wd hw 128)) (by decide) (t := .boolean) (t' := .byte) (by decide) (by decide)))
  have F38 : Sta Z h32 ST "COMPACT_STRINGS" "Z" (.int cs) := F26.wr W33
  have F39 : Exa Z h32 b2 "[B" := F27.wr W33
  have F40 : Fa Z h32 b2 .byte cp (fun _ => (.int (0 : Int32))) := F28.other W33 (Ne.symm ne7)
  have F41 : Fld Z h32 o AB "value" "[B" (.ref b2) := F21.other W33 (Or.inr (slot_ne (Or.inl (wd hw 126)) (Or.inl (wd hw 128)) (by decide) (t := (.array .byte)) (t' := .byte) (by decide) (by decide)))
  have sz42 : n0 ≤ h32.size := Nat.le_trans sz29 (Nat.le_of_eq W33.size.symm)
  have sy43 : h0.size ≤ h32.size := Nat.le_trans sy30 (Nat.le_of_eq W33.size.symm)
  have K44 := K31.wr W33 (Or.inl (by simp))
  show Wk _ p l e _ s m _ below meth c n0 _ h32 1 64 (mkF m 22 #[.val (.ref o), .val (.int (Int32.ofNat cp))] [])
  refine Wk.gto C (pc' := 38) d20_22 (by decide) (by decide) ?_
  exact Wk.retN0 C rfl d20_38 (by decide) (by decide) ⟨b2, rfl, K44, gz9, ⟨F35, F41, F34, F36, F37, F40, F39, ne7, fun i _ => rfl, Nat.zero_le _, by omega⟩⟩
theorem d19_0 : decode jdk_67_method_2_code 0 = .ok (.aload_n 0, 1) := by decide +kernel
theorem d19_1 : decode jdk_67_method_2_code 1 = .ok (.iload_n 1, 1) := by decide +kernel
theorem d19_2 : decode jdk_67_method_2_code 2 = .ok (.invokespecial 1, 3) := by decide +kernel
theorem d19_5 : decode jdk_67_method_2_code 5 = .ok (.return_, 1) := by decide +kernel
set_option maxRecDepth 65536 in
set_option maxHeartbeats 40000000 in
theorem own_sinit (l : Launch) (Z : State) (a0 : Array Value) (hw : ∀ d ∈ tables_1, d.before a0 Z = true) (n0 : Nat) (h0 : Heap) (cs : Int32) (SC : Sta Z h0 ST "COMPACT_STRINGS" "Z" (.int cs)) (hcs : ¬ cs = (0 : Int32)) (hsz : n0 ≤ h0.size) (o : Addr) (go : n0 ≤ o) (F0 : Exa Z h0 o SBN) (F1 : Fld Z h0 o AB "value" "[B" .null) (F2 : Fld Z h0 o AB "coder" "B" (.int (0 : Int32))) (F3 : Fld Z h0 o AB "count" "I" (.int (0 : Int32))) (F4 : Fld Z h0 o AB "maybeLatin1" "Z" (.int (0 : Int32))) (cp : Nat) (hcp : cp ≤ 64) :
    Met false l Z n0 (⟨SBN, "<init>", "(I)V"⟩ : MethodName) jdk_67_method_2_code 2 none ({ frames := 2, cells := 1, slots := 64, locals := 25 } : Room) #[(.ref o), (.int (Int32.ofNat cp))] h0 (fun r h => ∃ vo : Addr, r = none ∧ Keep h0 h [o] ∧ h0.size ≤ vo ∧ Sb Z h o vo cp 0 (fun _ => .int 0)) := by
  refine Met.of (plainFor_of_name pn_2) #[.val (.ref o), .val (.int (Int32.ofNat cp))] (fun m => by first | (simp [entryFrame, mkF, argsToLocals, Value.category]; done) | rfl) ?_
  intro p e s m below meth c C
  refine Wk.ald C d19_0 rfl rfl ?_
  refine Wk.ild C d19_1 rfl ?_
  refine Wk.callI C (z := (⟨AB, "<init>", "(I)V"⟩ : MethodName)) rfl (wd hw 117) (wd hw 118) (wd hw 121) (wd hw 122) (by decide) (own_ainit l Z a0 hw n0 h0 cs SC hcs hsz o go F0 F1 F2 F3 F4 cp hcp) (w := 0) (by decide) (by decide) pd_2 rfl (rest := []) rfl rfl (Nat.le_of_eq rfl) (by decide) (by decide) d19_2 ?_
  rintro _ h1 ⟨vo, rfl, K1, g1, S1⟩
  show Wk _ p l e _ s m _ below meth c n0 _ h1 1 64 (mkF m 5 #[.val (.ref o), .val (.int (Int32.ofNat cp))] [])
  exact Wk.retN0 C rfl d19_5 (by decide) (by decide) ⟨vo, rfl, K1, g1, S1⟩
theorem d32_0 : decode jdk_68_method_71_code 0 = .ok (.getstatic 18, 3) := by decide +kernel
theorem d32_3 : decode jdk_68_method_71_code 3 = .ok (.ifCond .eq 18, 3) := by decide +kernel
theorem d32_6 : decode jdk_68_method_71_code 6 = .ok (.aload_n 0, 1) := by decide +kernel
theorem d32_7 : decode jdk_68_method_71_code 7 = .ok (.getfield 22, 3) := by decide +kernel
theorem d32_10 : decode jdk_68_method_71_code 10 = .ok (.aload_n 1, 1) := by decide +kernel
theorem d32_11 : decode jdk_68_method_71_code 11 = .ok (.invokevirtual 40, 3) := by decide +kernel
theorem d32_14 : decode jdk_68_method_71_code 14 = .ok (.if_icmp .eq 7, 3) := by decide +kernel
theorem d32_21 : decode jdk_68_method_71_code 21 = .ok (.return_, 1) := by decide +kernel
set_option maxRecDepth 65536 in
set_option maxHeartbeats 40000000 in
theorem own_infl (l : Launch) (Z : State) (a0 : Array Value) (hw : ∀ d ∈ tables_1, d.before a0 Z = true) (n0 : Nat) (h0 : Heap) (cs : Int32) (SC : Sta Z h0 ST "COMPACT_STRINGS" "Z" (.int cs)) (hcs : ¬ cs = (0 : Int32)) (a va : Addr) (n : Nat) (f : Nat → Value) (S : Str Z h0 a va n f) (o vo : Addr) (cp no : Nat) (g : Nat → Value) (B : Sb Z h0 o vo cp no g) :
    Met false l Z n0 (⟨AB, "inflateIfNeededFor", "(Ljava/lang/String;)V"⟩ : MethodName) jdk_68_method_71_code 2 none ({ frames := 1, cells := 0, slots := 0, locals := 13 } : Room) #[(.ref o), (.ref a)] h0 (fun r h => r = none ∧ h0 = h) := by
  refine Met.of (plainFor_of_name pn_1) #[.val (.ref o), .val (.ref a)] (fun m => by first | (simp [entryFrame, mkF, argsToLocals, Value.category]; done) | rfl) ?_
  intro p e s m below meth c C
  refine Wk.getS C (wd hw 124) SC d32_0 ?_
  show Wk _ p l e _ s m _ below meth c n0 _ h0 0 0 (mkF m 3 #[.val (.ref o), .val (.ref a)] [(.int cs)])
  refine Wk.ifN C d32_3 (XT.i0_eq_f hcs) ?_
  refine Wk.ald C d32_6 rfl rfl ?_
  refine Wk.getF C (wd hw 127) Via.refl B.2.2.1 d32_7 ?_
  show Wk _ p l e _ s m _ below meth c n0 _ h0 0 0 (mkF m 10 #[.val (.ref o), .val (.ref a)] [(.int (0 : Int32))])
  refine Wk.ald C d32_10 rfl rfl ?_
  refine Wk.callV C (x := (⟨ST, "coder", "()B"⟩ : MethodName)) (z := (⟨ST, "coder", "()B"⟩ : MethodName)) (K := ST) (wd hw 191) (wd hw 94) (wd hw 96) (wd hw 95) (wd hw 5) (wd hw 97) (by decide) (fun s' hZ' => notFace_of_selects (args := #[]) (mvT hZ' (wd hw 96))) S.1 (own_coder l Z a0 hw n0 h0 cs SC hcs a va n f S) (w := 1) (by decide) (by decide) pd_0 rfl (rest := [(.int (0 : Int32))]) rfl rfl (Nat.le_of_eq rfl) (by decide) (by decide) d32_11 ?_
  rintro _ _ ⟨rfl, rfl⟩
  show Wk _ p l e _ s m _ below meth c n0 _ h0 0 0 (mkF m 14 #[.val (.ref o), .val (.ref a)] [(.int (0 : Int32)), (.int (0 : Int32))])
  refine Wk.icY C (pc' := 21) d32_14 (XT.ii_eq_t (by decide)) (by decide) (by decide) ?_
  exact Wk.retN0 C rfl d32_21 (by decide) (by decide) ⟨rfl, rfl⟩
theorem d33_0 : decode jdk_42_method_147_code 0 = .ok (.aload_n 0, 1) := by decide +kernel
theorem d33_1 : decode jdk_42_method_147_code 1 = .ok (.invokevirtual 335, 3) := by decide +kernel
theorem d33_4 : decode jdk_42_method_147_code 4 = .ok (.iload_n 3, 1) := by decide +kernel
theorem d33_5 : decode jdk_42_method_147_code 5 = .ok (.if_icmp .ne 23, 3) := by decide +kernel
theorem d33_8 : decode jdk_42_method_147_code 8 = .ok (.aload_n 0, 1) := by decide +kernel
theorem d33_9 : decode jdk_42_method_147_code 9 = .ok (.getfield 9, 3) := by decide +kernel
theorem d33_12 : decode jdk_42_method_147_code 12 = .ok (.iconst 0, 1) := by decide +kernel
theorem d33_13 : decode jdk_42_method_147_code 13 = .ok (.aload_n 1, 1) := by decide +kernel
theorem d33_14 : decode jdk_42_method_147_code 14 = .ok (.iload_n 2, 1) := by decide +kernel
theorem d33_15 : decode jdk_42_method_147_code 15 = .ok (.iload_n 3, 1) := by decide +kernel
theorem d33_16 : decode jdk_42_method_147_code 16 = .ok (.ishl, 1) := by decide +kernel
theorem d33_17 : decode jdk_42_method_147_code 17 = .ok (.aload_n 0, 1) := by decide +kernel
theorem d33_18 : decode jdk_42_method_147_code 18 = .ok (.getfield 9, 3) := by decide +kernel
theorem d33_21 : decode jdk_42_method_147_code 21 = .ok (.arraylength, 1) := by decide +kernel
theorem d33_22 : decode jdk_42_method_147_code 22 = .ok (.invokestatic 212, 3) := by decide +kernel
theorem d33_25 : decode jdk_42_method_147_code 25 = .ok (.goto 18, 3) := by decide +kernel
theorem d33_43 : decode jdk_42_method_147_code 43 = .ok (.return_, 1) := by decide +kernel
set_option maxRecDepth 65536 in
set_option maxHeartbeats 40000000 in
theorem own_gb (l : Launch) (Z : State) (a0 : Array Value) (hw : ∀ d ∈ tables_1, d.before a0 Z = true) (n0 : Nat) (h0 : Heap) (cs : Int32) (SC : Sta Z h0 ST "COMPACT_STRINGS" "Z" (.int cs)) (hcs : ¬ cs = (0 : Int32)) (a va : Addr) (n : Nat) (f : Nat → Value) (S : Str Z h0 a va n f) (vd : Addr) (gd : Nat → Value) (mx d : Nat) (FD : Fa Z h0 vd .byte mx gd) (gv : n0 ≤ vd) (n2 : a ≠ vd) (n4 : va ≠ vd) (hd : d + n ≤ mx) (hmx : mx < 1000) :
    Met false l Z n0 (⟨ST, "getBytes", "([BIB)V"⟩ : MethodName) jdk_42_method_147_code 4 none ({ frames := 1, cells := 0, slots := 0, locals := 27 } : Room) #[(.ref a), (.ref vd), (.int (Int32.ofNat d)), (.int (0 : Int32))] h0 (fun r h => r = none ∧ Keep h0 h [vd] ∧ Fa Z h vd .byte mx (cpf f gd 0 d n)) := by
  refine Met.of (plainFor_of_name pn_0) #[.val (.ref a), .val (.ref vd), .val (.int (Int32.ofNat d)), .val (.int (0 : Int32))] (fun m => by first | (simp [entryFrame, mkF, argsToLocals, Value.category]; done) | rfl) ?_
  intro p e s m below meth c C
  refine Wk.ald C d33_0 rfl rfl ?_
  refine Wk.callV C (x := (⟨ST, "coder", "()B"⟩ : MethodName)) (z := (⟨ST, "coder", "()B"⟩ : MethodName)) (K := ST) (wd hw 93) (wd hw 94) (wd hw 96) (wd hw 95) (wd hw 5) (wd hw 97) (by decide) (fun s' hZ' => notFace_of_selects (args := #[]) (mvT hZ' (wd hw 96))) S.1 (own_coder l Z a0 hw n0 h0 cs SC hcs a va n f S) (w := 0) (by decide) (by decide) pd_0 rfl (rest := []) rfl rfl (Nat.le_of_eq rfl) (by decide) (by decide) d33_1 ?_
  rintro _ _ ⟨rfl, rfl⟩
  show Wk _ p l e _ s m _ below meth c n0 _ h0 0 0 (mkF m 4 #[.val (.ref a), .val (.ref vd), .val (.int (Int32.ofNat d)), .val (.int (0 : Int32))] [(.int (0 : Int32))])
  refine Wk.ild C d33_4 rfl ?_
  refine Wk.icN C d33_5 (XT.ii_ne_f (by decide)) ?_
  refine Wk.ald C d33_8 rfl rfl ?_
  refine Wk.getF C (wd hw 78) Via.refl S.2.1 d33_9 ?_
  show Wk _ p l e _ s m _ below meth c n0 _ h0 0 0 (mkF m 12 #[.val (.ref a), .val (.ref vd), .val (.int (Int32.ofNat d)), .val (.int (0 : Int32))] [(.ref va)])
  refine Wk.st (g' := (mkF m 13 #[.val (.ref a), .val (.ref vd), .val (.int (Int32.ofNat d)), .val (.int (0 : Int32))] [(.int (0 : Int32)), (.ref va)])) (fun X t q => XS.iconst X.here C.hx rfl (hb C.hby d33_12) q) ?_
  refine Wk.ald C d33_13 rfl rfl ?_
  refine Wk.ild C d33_14 rfl ?_
  refine Wk.ild C d33_15 rfl ?_
  refine Wk.st (g' := (mkF m 17 #[.val (.ref a), .val (.ref vd), .val (.int (Int32.ofNat d)), .val (.int (0 : Int32))] [(.int ((Int32.ofNat d) <<< ((0 : Int32) &&& 31))), (.ref vd), (.int (0 : Int32)), (.ref va)])) (fun X t q => XS.ishl X.here C.hx rfl (hb C.hby d33_16) rfl q) ?_
  rw [show ((Int32.ofNat d) <<< ((0 : Int32) &&& 31)) = (Int32.ofNat d) from shl0 _]
  show Wk _ p l e _ s m _ below meth c n0 _ h0 0 0 (mkF m 17 #[.val (.ref a), .val (.ref vd), .val (.int (Int32.ofNat d)), .val (.int (0 : Int32))] [(.int (Int32.ofNat d)), (.ref vd), (.int (0 : Int32)), (.ref va)])
  refine Wk.ald C d33_17 rfl rfl ?_
  refine Wk.getF C (wd hw 78) Via.refl S.2.1 d33_18 ?_
  show Wk _ p l e _ s m _ below meth c n0 _ h0 0 0 (mkF m 21 #[.val (.ref a), .val (.ref vd), .val (.int (Int32.ofNat d)), .val (.int (0 : Int32))] [(.ref va), (.int (Int32.ofNat d)), (.ref vd), (.int (0 : Int32)), (.ref va)])
  refine Wk.fLen C S.2.2.2.1 (z := (Int32.ofNat n)) rfl d33_21 ?_
  show Wk _ p l e _ s m _ below meth c n0 _ h0 0 0 (mkF m 22 #[.val (.ref a), .val (.ref vd), .val (.int (Int32.ofNat d)), .val (.int (0 : Int32))] [(.int (Int32.ofNat n)), (.int (Int32.ofNat d)), (.ref vd), (.int (0 : Int32)), (.ref va)])
  refine Wk.acopy C (wd hw 197) (wd hw 200) (wd hw 198) (wd hw 199) S.2.2.2.1 FD rfl (sp := 0) (dp := d) (nn := n) (by omega) (by omega) S.2.2.2.2.2.2.1 gv rfl d33_22 (by decide) (w := 0) (Nat.le_of_eq rfl) (by decide) ?_
  intro h1 K2 F3
  have F4 : Sta Z h1 ST "COMPACT_STRINGS" "Z" (.int cs) := sta_keep SC K2 (nvS (Fa.ns FD) nv0)
  have F5 : Exa Z h1 a ST := S.1.keep K2
  have F6 : Fld Z h1 a ST "value" "[B" (.ref va) := S.2.1.keep K2 (nmS n2 nm0)
  have F7 : Fld Z h1 a ST "coder" "B" (.int (0 : Int32)) := S.2.2.1.keep K2 (nmS n2 nm0)
  have F8 : Fa Z h1 va .byte n f := S.2.2.2.1.keep K2 (nmS n4 nm0)
  have F9 : Exa Z h1 va "[B" := S.2.2.2.2.1.keep K2
  have K10 := (Keep.refl h0 [vd]).trans K2 (nvS (Or.inl (by simp)) nv0)
  show Wk _ p l e _ s m _ below meth c n0 _ h1 0 0 (mkF m 25 #[.val (.ref a), .val (.ref vd), .val (.int (Int32.ofNat d)), .val (.int (0 : Int32))] [])
  refine Wk.gto C (pc' := 43) d33_25 (by decide) (by decide) ?_
  exact Wk.retN0 C rfl d33_43 (by decide) (by decide) ⟨rfl, K10, F3⟩
theorem d31_0 : decode jdk_68_method_73_code 0 = .ok (.aload_n 0, 1) := by decide +kernel
theorem d31_1 : decode jdk_68_method_73_code 1 = .ok (.aload_n 2, 1) := by decide +kernel
theorem d31_2 : decode jdk_68_method_73_code 2 = .ok (.invokevirtual 397, 3) := by decide +kernel
theorem d31_5 : decode jdk_68_method_73_code 5 = .ok (.aload_n 2, 1) := by decide +kernel
theorem d31_6 : decode jdk_68_method_73_code 6 = .ok (.aload_n 0, 1) := by decide +kernel
theorem d31_7 : decode jdk_68_method_73_code 7 = .ok (.getfield 15, 3) := by decide +kernel
theorem d31_10 : decode jdk_68_method_73_code 10 = .ok (.iload_n 1, 1) := by decide +kernel
theorem d31_11 : decode jdk_68_method_73_code 11 = .ok (.aload_n 0, 1) := by decide +kernel
theorem d31_12 : decode jdk_68_method_73_code 12 = .ok (.getfield 22, 3) := by decide +kernel
theorem d31_15 : decode jdk_68_method_73_code 15 = .ok (.invokevirtual 399, 3) := by decide +kernel
theorem d31_18 : decode jdk_68_method_73_code 18 = .ok (.return_, 1) := by decide +kernel
set_option maxRecDepth 65536 in
set_option maxHeartbeats 40000000 in
theorem own_put (l : Launch) (Z : State) (a0 : Array Value) (hw : ∀ d ∈ tables_1, d.before a0 Z = true) (n0 : Nat) (h0 : Heap) (cs : Int32) (SC : Sta Z h0 ST "COMPACT_STRINGS" "Z" (.int cs)) (hcs : ¬ cs = (0 : Int32)) (a va : Addr) (n : Nat) (f : Nat → Value) (S : Str Z h0 a va n f) (o vo : Addr) (cp no : Nat) (g : Nat → Value) (B : Sb Z h0 o vo cp no g) (n1 : a ≠ o) (n2 : a ≠ vo) (n3 : va ≠ o) (n4 : va ≠ vo) (go : n0 ≤ o) (gv : n0 ≤ vo) (hd : no + n ≤ cp) :
    Met false l Z n0 (⟨AB, "putStringAt", "(ILjava/lang/String;)V"⟩ : MethodName) jdk_68_method_73_code 3 none ({ frames := 2, cells := 0, slots := 0, locals := 42 } : Room) #[(.ref o), (.int (Int32.ofNat no)), (.ref a)] h0 (fun r h => r = none ∧ Keep h0 h [vo] ∧ Fa Z h vo .byte cp (cpf f g 0 no n)) := by
  refine Met.of (plainFor_of_name pn_1) #[.val (.ref o), .val (.int (Int32.ofNat no)), .val (.ref a)] (fun m => by first | (simp [entryFrame, mkF, argsToLocals, Value.category]; done) | rfl) ?_
  intro p e s m below meth c C
  refine Wk.ald C d31_0 rfl rfl ?_
  refine Wk.ald C d31_1 rfl rfl ?_
  refine Wk.callP2 C (z := (⟨AB, "inflateIfNeededFor", "(Ljava/lang/String;)V"⟩ : MethodName)) (K := SBN) (K' := SBN) (wd hw 186) (wd hw 187) (wd hw 188) (wd hw 189) (wd hw 121) (wd hw 190) (by decide) B.1 (own_infl l Z a0 hw n0 h0 cs SC hcs a va n f S o vo cp no g B) (w := 0) (by decide) (by decide) pd_3 rfl (rest := []) rfl rfl (Nat.le_of_eq rfl) (by decide) (by decide) d31_2 ?_
  rintro _ _ ⟨rfl, rfl⟩
  show Wk _ p l e _ s m _ below meth c n0 _ h0 0 0 (mkF m 5 #[.val (.ref o), .val (.int (Int32.ofNat no)), .val (.ref a)] [])
  refine Wk.ald C d31_5 rfl rfl ?_
  refine Wk.ald C d31_6 rfl rfl ?_
  refine Wk.getF C (wd hw 125) Via.refl B.2.1 d31_7 ?_
  show Wk _ p l e _ s m _ below meth c n0 _ h0 0 0 (mkF m 10 #[.val (.ref o), .val (.int (Int32.ofNat no)), .val (.ref a)] [(.ref vo), (.ref a)])
  refine Wk.ild C d31_10 rfl ?_
  refine Wk.ald C d31_11 rfl rfl ?_
  refine Wk.getF C (wd hw 127) Via.refl B.2.2.1 d31_12 ?_
  show Wk _ p l e _ s m _ below meth c n0 _ h0 0 0 (mkF m 15 #[.val (.ref o), .val (.int (Int32.ofNat no)), .val (.ref a)] [(.int (0 : Int32)), (.int (Int32.ofNat no)), (.ref vo), (.ref a)])
  refine Wk.callV C (x := (⟨ST, "getBytes", "([BIB)V"⟩ : MethodName)) (z := (⟨ST, "getBytes", "([BIB)V"⟩ : MethodName)) (K := ST) (wd hw 192) (wd hw 193) (wd hw 195) (wd hw 194) (wd hw 5) (wd hw 196) (by decide) (fun s' hZ' => notFace_of_selects (args := #[]) (mvT hZ' (wd hw 195))) S.1 (own_gb l Z a0 hw n0 h0 cs SC hcs a va n f S vo g cp no B.2.2.2.2.2.1 gv n2 n4 hd B.2.2.2.2.2.2.2.2.2.2) (w := 0) (by decide) (by decide) pd_4 rfl (rest := []) rfl rfl (Nat.le_of_eq rfl) (by decide) (by decide) d31_15 ?_
  rintro _ h1 ⟨rfl, K2, F3⟩
  show Wk _ p l e _ s m _ below meth c n0 _ h1 0 0 (mkF m 18 #[.val (.ref o), .val (.int (Int32.ofNat no)), .val (.ref a)] [])
  have F4 : Sta Z h1 ST "COMPACT_STRINGS" "Z" (.int cs) := sta_keep SC K2 (nvS (exa_ns B.2.2.2.2.2.2.1) nv0)
  have F5 : Exa Z h1 a ST := S.1.keep K2
  have F6 : Fld Z h1 a ST "value" "[B" (.ref va) := S.2.1.keep K2 (nmS n2 nm0)
  have F7 : Fld Z h1 a ST "coder" "B" (.int (0 : Int32)) := S.2.2.1.keep K2 (nmS n2 nm0)
  have F8 : Fa Z h1 va .byte n f := S.2.2.2.1.keep K2 (nmS n4 nm0)
  have F9 : Exa Z h1 va "[B" := S.2.2.2.2.1.keep K2
  have F10 : Exa Z h1 o SBN := B.1.keep K2
  have F11 : Fld Z h1 o AB "value" "[B" (.ref vo) := B.2.1.keep K2 (nmS B.2.2.2.2.2.2.2.1 nm0)
  have F12 : Fld Z h1 o AB "coder" "B" (.int (0 : Int32)) := B.2.2.1.keep K2 (nmS B.2.2.2.2.2.2.2.1 nm0)
  have F13 : Fld Z h1 o AB "count" "I" (.int (Int32.ofNat no)) := B.2.2.2.1.keep K2 (nmS B.2.2.2.2.2.2.2.1 nm0)
  have F14 : Fld Z h1 o AB "maybeLatin1" "Z" (.int (0 : Int32)) := B.2.2.2.2.1.keep K2 (nmS B.2.2.2.2.2.2.2.1 nm0)
  have F15 : Exa Z h1 vo "[B" := B.2.2.2.2.2.2.1.keep K2
  have K16 := (Keep.refl h0 [vo]).trans K2 (nvS (Or.inl (by simp)) nv0)
  exact Wk.retN0 C rfl d31_18 (by decide) (by decide) ⟨rfl, K16, F3⟩
theorem d29_0 : decode jdk_68_method_22_code 0 = .ok (.aload_n 1, 1) := by decide +kernel
theorem d29_1 : decode jdk_68_method_22_code 1 = .ok (.ifnonnull 8, 3) := by decide +kernel
theorem d29_9 : decode jdk_68_method_22_code 9 = .ok (.aload_n 1, 1) := by decide +kernel
theorem d29_10 : decode jdk_68_method_22_code 10 = .ok (.invokevirtual 32, 3) := by decide +kernel
theorem d29_13 : decode jdk_68_method_22_code 13 = .ok (.istore_n 2, 1) := by decide +kernel
theorem d29_14 : decode jdk_68_method_22_code 14 = .ok (.aload_n 0, 1) := by decide +kernel
theorem d29_15 : decode jdk_68_method_22_code 15 = .ok (.aload_n 0, 1) := by decide +kernel
theorem d29_16 : decode jdk_68_method_22_code 16 = .ok (.getfield 79, 3) := by decide +kernel
theorem d29_19 : decode jdk_68_method_22_code 19 = .ok (.iload_n 2, 1) := by decide +kernel
theorem d29_20 : decode jdk_68_method_22_code 20 = .ok (.iadd, 1) := by decide +kernel
theorem d29_21 : decode jdk_68_method_22_code 21 = .ok (.invokevirtual 100, 3) := by decide +kernel
theorem d29_24 : decode jdk_68_method_22_code 24 = .ok (.aload_n 0, 1) := by decide +kernel
theorem d29_25 : decode jdk_68_method_22_code 25 = .ok (.aload_n 0, 1) := by decide +kernel
theorem d29_26 : decode jdk_68_method_22_code 26 = .ok (.getfield 79, 3) := by decide +kernel
theorem d29_29 : decode jdk_68_method_22_code 29 = .ok (.aload_n 1, 1) := by decide +kernel
theorem d29_30 : decode jdk_68_method_22_code 30 = .ok (.invokevirtual 208, 3) := by decide +kernel
theorem d29_33 : decode jdk_68_method_22_code 33 = .ok (.aload_n 0, 1) := by decide +kernel
theorem d29_34 : decode jdk_68_method_22_code 34 = .ok (.dup, 1) := by decide +kernel
theorem d29_35 : decode jdk_68_method_22_code 35 = .ok (.getfield 79, 3) := by decide +kernel
theorem d29_38 : decode jdk_68_method_22_code 38 = .ok (.iload_n 2, 1) := by decide +kernel
theorem d29_39 : decode jdk_68_method_22_code 39 = .ok (.iadd, 1) := by decide +kernel
theorem d29_40 : decode jdk_68_method_22_code 40 = .ok (.putfield 79, 3) := by decide +kernel
theorem d29_43 : decode jdk_68_method_22_code 43 = .ok (.aload_n 0, 1) := by decide +kernel
theorem d29_44 : decode jdk_68_method_22_code 44 = .ok (.areturn, 1) := by decide +kernel
set_option maxRecDepth 65536 in
set_option maxHeartbeats 40000000 in
theorem own_app (l : Launch) (Z : State) (a0 : Array Value) (hw : ∀ d ∈ tables_1, d.before a0 Z = true) (n0 : Nat) (h0 : Heap) (cs : Int32) (SC : Sta Z h0 ST "COMPACT_STRINGS" "Z" (.int cs)) (hcs : ¬ cs = (0 : Int32)) (a va : Addr) (n : Nat) (f : Nat → Value) (S : Str Z h0 a va n f) (o vo : Addr) (cp no : Nat) (g : Nat → Value) (B : Sb Z h0 o vo cp no g) (n1 : a ≠ o) (n2 : a ≠ vo) (n3 : va ≠ o) (n4 : va ≠ vo) (go : n0 ≤ o) (gv : n0 ≤ vo) (hd : no + n ≤ cp) :
    Met false l Z n0 (⟨AB, "append", "(Ljava/lang/String;)Ljava/lang/AbstractStringBuilder;"⟩ : MethodName) jdk_68_method_22_code 3 (some (.object AB)) ({ frames := 3, cells := 0, slots := 0, locals := 56 } : Room) #[(.ref o), (.ref a)] h0 (fun r h => r = some (.ref o) ∧ Keep h0 h [o, vo] ∧ Sb Z h o vo cp (no + n) (cpf f g 0 no n)) := by
  refine Met.of (plainFor_of_name pn_1) #[.val (.ref o), .val (.ref a), .unset] (fun m => by first | (simp [entryFrame, mkF, argsToLocals, Value.category]; done) | rfl) ?_
  intro p e s m below meth c C
  have hB := B.2.2.2.2.2.2.2.2.2
  have hS := S.2.2.2.2.2.2.2
  refine Wk.ald C d29_0 rfl rfl ?_
  refine Wk.st (g' := (mkF m 9 #[.val (.ref o), .val (.ref a), .unset] [])) (fun X t q => XS.ifnonnullYes X.here C.hx rfl (pc0 := 1) (pc' := 9) rfl (hb C.hby d29_1) rfl (by decide) (by decide) q) ?_
  refine Wk.ald C d29_9 rfl rfl ?_
  refine Wk.callV C (x := (⟨ST, "length", "()I"⟩ : MethodName)) (z := (⟨ST, "length", "()I"⟩ : MethodName)) (K := ST) (wd hw 173) (wd hw 174) (wd hw 175) (wd hw 88) (wd hw 5) (wd hw 92) (by decide) (fun s' hZ' => notFace_of_selects (args := #[]) (mvT hZ' (wd hw 175))) S.1 (own_len l Z a0 hw n0 h0 cs SC hcs a va n f S) (w := 0) (by decide) (by decide) pd_1 rfl (rest := []) rfl rfl (Nat.le_of_eq rfl) (by decide) (by decide) d29_10 ?_
  rintro _ _ ⟨rfl, rfl⟩
  show Wk _ p l e _ s m _ below meth c n0 _ h0 0 0 (mkF m 13 #[.val (.ref o), .val (.ref a), .unset] [(.int (Int32.ofNat n))])
  refine Wk.st (g' := (mkF m 14 #[.val (.ref o), .val (.ref a), .val (.int (Int32.ofNat n))] [])) (fun X t q => XS.istoreN X.here C.hx rfl (hb C.hby d29_13) rfl (l' := #[.val (.ref o), .val (.ref a), .val (.int (Int32.ofNat n))]) rfl q) ?_
  refine Wk.ald C d29_14 rfl rfl ?_
  refine Wk.ald C d29_15 rfl rfl ?_
  refine Wk.getF C (wd hw 139) Via.refl B.2.2.2.1 d29_16 ?_
  show Wk _ p l e _ s m _ below meth c n0 _ h0 0 0 (mkF m 19 #[.val (.ref o), .val (.ref a), .val (.int (Int32.ofNat n))] [(.int (Int32.ofNat no)), (.ref o)])
  refine Wk.ild C d29_19 rfl ?_
  refine Wk.st (g' := (mkF m 21 #[.val (.ref o), .val (.ref a), .val (.int (Int32.ofNat n))] [(.int ((Int32.ofNat no) + (Int32.ofNat n))), (.ref o)])) (fun X t q => XS.iadd X.here C.hx rfl (hb C.hby d29_20) rfl q) ?_
  rw [show ((Int32.ofNat no) + (Int32.ofNat n)) = (Int32.ofNat (no + n)) from add32 (by omega)]
  show Wk _ p l e _ s m _ below meth c n0 _ h0 0 0 (mkF m 21 #[.val (.ref o), .val (.ref a), .val (.int (Int32.ofNat n))] [(.int (Int32.ofNat (no + n))), (.ref o)])
  refine Wk.callP2 C (z := (⟨AB, "ensureCapacityInternal", "(I)V"⟩ : MethodName)) (K := SBN) (K' := SBN) (wd hw 176) (wd hw 177) (wd hw 178) (wd hw 179) (wd hw 121) (wd hw 180) (by decide) B.1 (own_ens l Z a0 hw n0 h0 o vo cp no g B (no + n) hd) (w := 0) (by decide) (by decide) pd_2 rfl (rest := []) rfl rfl (Nat.le_of_eq rfl) (by decide) (by decide) d29_21 ?_
  rintro _ _ ⟨rfl, rfl⟩
  show Wk _ p l e _ s m _ below meth c n0 _ h0 0 0 (mkF m 24 #[.val (.ref o), .val (.ref a), .val (.int (Int32.ofNat n))] [])
  refine Wk.ald C d29_24 rfl rfl ?_
  refine Wk.ald C d29_25 rfl rfl ?_
  refine Wk.getF C (wd hw 139) Via.refl B.2.2.2.1 d29_26 ?_
  show Wk _ p l e _ s m _ below meth c n0 _ h0 0 0 (mkF m 29 #[.val (.ref o), .val (.ref a), .val (.int (Int32.ofNat n))] [(.int (Int32.ofNat no)), (.ref o)])
  refine Wk.ald C d29_29 rfl rfl ?_
  refine Wk.callP2 C (z := (⟨AB, "putStringAt", "(ILjava/lang/String;)V"⟩ : MethodName)) (K := SBN) (K' := SBN) (wd hw 181) (wd hw 182) (wd hw 183) (wd hw 184) (wd hw 121) (wd hw 185) (by decide) B.1 (own_put l Z a0 hw n0 h0 cs SC hcs a va n f S o vo cp no g B n1 n2 n3 n4 go gv hd) (w := 0) (by decide) (by decide) pd_5 rfl (rest := []) rfl rfl (Nat.le_of_eq rfl) (by decide) (by decide) d29_30 ?_
  rintro _ h1 ⟨rfl, K2, Fq3⟩
  show Wk _ p l e _ s m _ below meth c n0 _ h1 0 0 (mkF m 33 #[.val (.ref o), .val (.ref a), .val (.int (Int32.ofNat n))] [])
  have F4 : Sta Z h1 ST "COMPACT_STRINGS" "Z" (.int cs) := sta_keep SC K2 (nvS (exa_ns B.2.2.2.2.2.2.1) nv0)
  have F5 : Exa Z h1 a ST := S.1.keep K2
  have F6 : Fld Z h1 a ST "value" "[B" (.ref va) := S.2.1.keep K2 (nmS n2 nm0)
  have F7 : Fld Z h1 a ST "coder" "B" (.int (0 : Int32)) := S.2.2.1.keep K2 (nmS n2 nm0)
  have F8 : Fa Z h1 va .byte n f := S.2.2.2.1.keep K2 (nmS n4 nm0)
  have F9 : Exa Z h1 va "[B" := S.2.2.2.2.1.keep K2
  have F10 : Exa Z h1 o SBN := B.1.keep K2
  have F11 : Fld Z h1 o AB "value" "[B" (.ref vo) := B.2.1.keep K2 (nmS B.2.2.2.2.2.2.2.1 nm0)
  have F12 : Fld Z h1 o AB "coder" "B" (.int (0 : Int32)) := B.2.2.1.keep K2 (nmS B.2.2.2.2.2.2.2.1 nm0)
  have F13 : Fld Z h1 o AB "count" "I" (.int (Int32.ofNat no)) := B.2.2.2.1.keep K2 (nmS B.2.2.2.2.2.2.2.1 nm0)
  have F14 : Fld Z h1 o AB "maybeLatin1" "Z" (.int (0 : Int32)) := B.2.2.2.2.1.keep K2 (nmS B.2.2.2.2.2.2.2.1 nm0)
  have F15 : Exa Z h1 vo "[B" := B.2.2.2.2.2.2.1.keep K2
  have K16 := (Keep.refl h0 [o, vo]).trans K2 (nvS (Or.inl (by simp)) nv0)
  refine Wk.ald C d29_33 rfl rfl ?_
  refine Wk.dupS C d29_34 rfl ?_
  refine Wk.getF C (wd hw 139) Via.refl F13 d29_35 ?_
  show Wk _ p l e _ s m _ below meth c n0 _ h1 0 0 (mkF m 38 #[.val (.ref o), .val (.ref a), .val (.int (Int32.ofNat n))] [(.int (Int32.ofNat no)), (.ref o)])
  refine Wk.ild C d29_38 rfl ?_
  refine Wk.st (g' := (mkF m 40 #[.val (.ref o), .val (.ref a), .val (.int (Int32.ofNat n))] [(.int ((Int32.ofNat no) + (Int32.ofNat n))), (.ref o)])) (fun X t q => XS.iadd X.here C.hx rfl (hb C.hby d29_39) rfl q) ?_
  rw [show ((Int32.ofNat no) + (Int32.ofNat n)) = (Int32.ofNat (no + n)) from add32 (by omega)]
  show Wk _ p l e _ s m _ below meth c n0 _ h1 0 0 (mkF m 40 #[.val (.ref o), .val (.ref a), .val (.int (Int32.ofNat n))] [(.int (Int32.ofNat (no + n))), (.ref o)])
  refine Wk.putF C (wd hw 139) Via.refl F13 F10 (Or.inl (wd hw 140)) (wd hw 108) (ty := .int) (by decide) (v' := (.int (Int32.ofNat (no + n)))) rfl rfl go d29_40 ?_
  intro h17 W18
  have F19 : Fld Z h17 o AB "count" "I" (.int (Int32.ofNat (no + n))) := F13.same W18
  have F20 : Sta Z h17 ST "COMPACT_STRINGS" "Z" (.int cs) := F4.wr W18
  have F21 : Exa Z h17 a ST := F5.wr W18
  have F22 : Fld Z h17 a ST "value" "[B" (.ref va) := F6.other W18 (Or.inl n1)
  have F23 : Fld Z h17 a ST "coder" "B" (.int (0 : Int32)) := F7.other W18 (Or.inl n1)
  have F24 : Fa Z h17 va .byte n f := F8.other W18 n3
  have F25 : Exa Z h17 va "[B" := F9.wr W18
  have F26 : Exa Z h17 o SBN := F10.wr W18
  have F27 : Fld Z h17 o AB "value" "[B" (.ref vo) := F11.other W18 (Or.inr (slot_ne (Or.inl (wd hw 126)) (Or.inl (wd hw 140)) (by decide) (t := (.array .byte)) (t' := .int) (by decide) (by decide)))
  have F28 : Fld Z h17 o AB "coder" "B" (.int (0 : Int32)) := F12.other W18 (Or.inr (slot_ne (Or.inl (wd hw 128)) (Or.inl (wd hw 140)) (by decide) (t := .byte) (t' := .int) (by decide) (by decide)))
  have F29 : Fld Z h17 o AB "maybeLatin1" "Z" (.int (0 : Int32)) := F14.other W18 (Or.inr (slot_ne (Or.inl (wd hw 355)) (Or.inl (wd hw 140)) (by decide) (t := .boolean) (t' := .int) (by decide) (by decide)))
  have F30 : Exa Z h17 vo "[B" := F15.wr W18
  have F31 : Fa Z h17 vo .byte cp (cpf f g 0 no n) := Fq3.other W18 (Ne.symm B.2.2.2.2.2.2.2.1)
  have K32 := K16.wr W18 (Or.inl (by simp))
  show Wk _ p l e _ s m _ below meth c n0 _ h17 0 0 (mkF m 43 #[.val (.ref o), .val (.ref a), .val (.int (Int32.ofNat n))] [])
  refine Wk.ald C d29_43 rfl rfl ?_
  exact Wk.retV C (t := (.object AB)) rfl rfl (Or.inr (Or.inr (Or.inr (Or.inr ⟨rfl, rfl, rfl⟩)))) d29_44 (by decide) (by decide) ⟨rfl, K32, ⟨F26, F27, F28, F19, F29, F31, F30, B.2.2.2.2.2.2.2.1, (FT.cpf S.2.2.2.2.2.2.1 B.2.2.2.2.2.2.2.2.1 (by omega)), hd, hB.2⟩⟩
theorem d28_0 : decode jdk_67_method_7_code 0 = .ok (.aload_n 0, 1) := by decide +kernel
theorem d28_1 : decode jdk_67_method_7_code 1 = .ok (.aload_n 1, 1) := by decide +kernel
theorem d28_2 : decode jdk_67_method_7_code 2 = .ok (.invokespecial 29, 3) := by decide +kernel
theorem d28_5 : decode jdk_67_method_7_code 5 = .ok (.pop, 1) := by decide +kernel
theorem d28_6 : decode jdk_67_method_7_code 6 = .ok (.aload_n 0, 1) := by decide +kernel
theorem d28_7 : decode jdk_67_method_7_code 7 = .ok (.areturn, 1) := by decide +kernel
set_option maxRecDepth 65536 in
set_option maxHeartbeats 40000000 in
theorem own_sapp (l : Launch) (Z : State) (a0 : Array Value) (hw : ∀ d ∈ tables_1, d.before a0 Z = true) (n0 : Nat) (h0 : Heap) (cs : Int32) (SC : Sta Z h0 ST "COMPACT_STRINGS" "Z" (.int cs)) (hcs : ¬ cs = (0 : Int32)) (a va : Addr) (n : Nat) (f : Nat → Value) (S : Str Z h0 a va n f) (o vo : Addr) (cp no : Nat) (g : Nat → Value) (B : Sb Z h0 o vo cp no g) (n1 : a ≠ o) (n2 : a ≠ vo) (n3 : va ≠ o) (n4 : va ≠ vo) (go : n0 ≤ o) (gv : n0 ≤ vo) (hd : no + n ≤ cp) :
    Met false l Z n0 (⟨SBN, "append", "(Ljava/lang/String;)Ljava/lang/StringBuilder;"⟩ : MethodName) jdk_67_method_7_code 2 (some (.object SBN)) ({ frames := 4, cells := 0, slots := 0, locals := 70 } : Room) #[(.ref o), (.ref a)] h0 (fun r h => r = some (.ref o) ∧ Keep h0 h [o, vo] ∧ Sb Z h o vo cp (no + n) (cpf f g 0 no n)) := by
  refine Met.of (plainFor_of_name pn_2) #[.val (.ref o), .val (.ref a)] (fun m => by first | (simp [entryFrame, mkF, argsToLocals, Value.category]; done) | rfl) ?_
  intro p e s m below meth c C
  refine Wk.ald C d28_0 rfl rfl ?_
  refine Wk.ald C d28_1 rfl rfl ?_
  refine Wk.callSup C (z := (⟨AB, "append", "(Ljava/lang/String;)Ljava/lang/AbstractStringBuilder;"⟩ : MethodName)) (K := SBN) (wd hw 171) (same_self (wd hw 162) (hw _ (List.mem_of_getElem? (i := 179) rfl)) rfl (by decide)) (wd hw 162) (wd hw 136) (wd hw 121) (wd hw 172) (by decide) B.1 (own_app l Z a0 hw n0 h0 cs SC hcs a va n f S o vo cp no g B n1 n2 n3 n4 go gv hd) (w := 0) (by decide) (by decide) pd_6 rfl (rest := []) rfl rfl (Nat.le_of_eq rfl) (by decide) (by decide) d28_2 ?_
  rintro _ h1 ⟨rfl, K1, B1⟩
  show Wk _ p l e _ s m _ below meth c n0 _ h1 0 0 (mkF m 5 #[.val (.ref o), .val (.ref a)] [(.ref o)])
  refine Wk.popS C d28_5 rfl ?_
  refine Wk.ald C d28_6 rfl rfl ?_
  exact Wk.retV C (t := (.object SBN)) rfl rfl (Or.inr (Or.inr (Or.inr (Or.inr ⟨rfl, rfl, rfl⟩)))) d28_7 (by decide) (by decide) ⟨rfl, K1, B1⟩
theorem d27_0 : decode jdk_67_method_80_code 0 = .ok (.aload_n 0, 1) := by decide +kernel
theorem d27_1 : decode jdk_67_method_80_code 1 = .ok (.aload_n 1, 1) := by decide +kernel
theorem d27_2 : decode jdk_67_method_80_code 2 = .ok (.invokevirtual 23, 3) := by decide +kernel
theorem d27_5 : decode jdk_67_method_80_code 5 = .ok (.areturn, 1) := by decide +kernel
set_option maxRecDepth 65536 in
set_option maxHeartbeats 40000000 in
theorem own_bapp (l : Launch) (Z : State) (a0 : Array Value) (hw : ∀ d ∈ tables_1, d.before a0 Z = true) (n0 : Nat) (h0 : Heap) (cs : Int32) (SC : Sta Z h0 ST "COMPACT_STRINGS" "Z" (.int cs)) (hcs : ¬ cs = (0 : Int32)) (a va : Addr) (n : Nat) (f : Nat → Value) (S : Str Z h0 a va n f) (o vo : Addr) (cp no : Nat) (g : Nat → Value) (B : Sb Z h0 o vo cp no g) (n1 : a ≠ o) (n2 : a ≠ vo) (n3 : va ≠ o) (n4 : va ≠ vo) (go : n0 ≤ o) (gv : n0 ≤ vo) (hd : no + n ≤ cp) :
    Met false l Z n0 (⟨SBN, "append", "(Ljava/lang/String;)Ljava/lang/AbstractStringBuilder;"⟩ : MethodName) jdk_67_method_80_code 2 (some (.object AB)) ({ frames := 5, cells := 0, slots := 0, locals := 83 } : Room) #[(.ref o), (.ref a)] h0 (fun r h => r = some (.ref o) ∧ Keep h0 h [o, vo] ∧ Sb Z h o vo cp (no + n) (cpf f g 0 no n)) := by
  refine Met.of (plainFor_of_name pn_2) #[.val (.ref o), .val (.ref a)] (fun m => by first | (simp [entryFrame, mkF, argsToLocals, Value.category]; done) | rfl) ?_
  intro p e s m below meth c C
  refine Wk.ald C d27_0 rfl rfl ?_
  refine Wk.ald C d27_1 rfl rfl ?_
  refine Wk.callV C (x := (⟨SBN, "append", "(Ljava/lang/String;)Ljava/lang/StringBuilder;"⟩ : MethodName)) (z := (⟨SBN, "append", "(Ljava/lang/String;)Ljava/lang/StringBuilder;"⟩ : MethodName)) (K := SBN) (wd hw 166) (wd hw 167) (wd hw 169) (wd hw 168) (wd hw 109) (wd hw 170) (by decide) (fun s' hZ' => notFace_of_selects (args := #[]) (mvT hZ' (wd hw 169))) B.1 (own_sapp l Z a0 hw n0 h0 cs SC hcs a va n f S o vo cp no g B n1 n2 n3 n4 go gv hd) (w := 0) (by decide) (by decide) pd_7 rfl (rest := []) rfl rfl (Nat.le_of_eq rfl) (by decide) (by decide) d27_2 ?_
  rintro _ h1 ⟨rfl, K1, B1⟩
  show Wk _ p l e _ s m _ below meth c n0 _ h1 0 0 (mkF m 5 #[.val (.ref o), .val (.ref a)] [(.ref o)])
  exact Wk.retV C (t := (.object AB)) rfl rfl (Or.inr (Or.inr (Or.inr (Or.inr ⟨rfl, rfl, rfl⟩)))) d27_5 (by decide) (by decide) ⟨rfl, K1, B1⟩
theorem d26_0 : decode jdk_68_method_25_code 0 = .ok (.aload_n 1, 1) := by decide +kernel
theorem d26_1 : decode jdk_68_method_25_code 1 = .ok (.ifnonnull 8, 3) := by decide +kernel
theorem d26_9 : decode jdk_68_method_25_code 9 = .ok (.aload_n 1, 1) := by decide +kernel
theorem d26_10 : decode jdk_68_method_25_code 10 = .ok (.instanceof 1, 3) := by decide +kernel
theorem d26_13 : decode jdk_68_method_25_code 13 = .ok (.ifCond .eq 12, 3) := by decide +kernel
theorem d26_16 : decode jdk_68_method_25_code 16 = .ok (.aload_n 0, 1) := by decide +kernel
theorem d26_17 : decode jdk_68_method_25_code 17 = .ok (.aload_n 1, 1) := by decide +kernel
theorem d26_18 : decode jdk_68_method_25_code 18 = .ok (.checkcast 1, 3) := by decide +kernel
theorem d26_21 : decode jdk_68_method_25_code 21 = .ok (.invokevirtual 43, 3) := by decide +kernel
theorem d26_24 : decode jdk_68_method_25_code 24 = .ok (.areturn, 1) := by decide +kernel
theorem d26_25 : decode jdk_68_method_25_code 25 = .ok (.aload_n 1, 1) := by decide +kernel
theorem d26_26 : decode jdk_68_method_25_code 26 = .ok (.instanceof 10, 3) := by decide +kernel
theorem d26_29 : decode jdk_68_method_25_code 29 = .ok (.ifCond .eq 12, 3) := by decide +kernel
theorem d26_32 : decode jdk_68_method_25_code 32 = .ok (.aload_n 0, 1) := by decide +kernel
theorem d26_33 : decode jdk_68_method_25_code 33 = .ok (.aload_n 1, 1) := by decide +kernel
theorem d26_34 : decode jdk_68_method_25_code 34 = .ok (.checkcast 10, 3) := by decide +kernel
theorem d26_37 : decode jdk_68_method_25_code 37 = .ok (.invokevirtual 212, 3) := by decide +kernel
theorem d26_40 : decode jdk_68_method_25_code 40 = .ok (.areturn, 1) := by decide +kernel
set_option maxRecDepth 65536 in
set_option maxHeartbeats 40000000 in
theorem own_acs (l : Launch) (Z : State) (a0 : Array Value) (hw : ∀ d ∈ tables_1, d.before a0 Z = true) (n0 : Nat) (h0 : Heap) (cs : Int32) (SC : Sta Z h0 ST "COMPACT_STRINGS" "Z" (.int cs)) (hcs : ¬ cs = (0 : Int32)) (a va : Addr) (n : Nat) (f : Nat → Value) (S : Str Z h0 a va n f) (o vo : Addr) (cp no : Nat) (g : Nat → Value) (B : Sb Z h0 o vo cp no g) (n1 : a ≠ o) (n2 : a ≠ vo) (n3 : va ≠ o) (n4 : va ≠ vo) (go : n0 ≤ o) (gv : n0 ≤ vo) (hd : no + n ≤ cp) :
    Met false l Z n0 (⟨AB, "append", "(Ljava/lang/CharSequence;)Ljava/lang/AbstractStringBuilder;"⟩ : MethodName) jdk_68_method_25_code 2 (some (.object AB)) ({ frames := 6, cells := 0, slots := 0, locals := 96 } : Room) #[(.ref o), (.ref a)] h0 (fun r h => r = some (.ref o) ∧ Keep h0 h [o, vo] ∧ Sb Z h o vo cp (no + n) (cpf f g 0 no n)) := by
  refine Met.of (plainFor_of_name pn_1) #[.val (.ref o), .val (.ref a)] (fun m => by first | (simp [entryFrame, mkF, argsToLocals, Value.category]; done) | rfl) ?_
  intro p e s m below meth c C
  refine Wk.ald C d26_0 rfl rfl ?_
  refine Wk.st (g' := (mkF m 9 #[.val (.ref o), .val (.ref a)] [])) (fun X t q => XS.ifnonnullYes X.here C.hx rfl (pc0 := 1) (pc' := 9) rfl (hb C.hby d26_1) rfl (by decide) (by decide) q) ?_
  refine Wk.ald C d26_9 rfl rfl ?_
  refine Wk.isY C (wd hw 159) (Ins.self S.1) d26_10 ?_
  show Wk _ p l e _ s m _ below meth c n0 _ h0 0 0 (mkF m 13 #[.val (.ref o), .val (.ref a)] [(.int (1 : Int32))])
  refine Wk.ifN C d26_13 (XT.i0_eq_f (by decide)) ?_
  refine Wk.ald C d26_16 rfl rfl ?_
  refine Wk.ald C d26_17 rfl rfl ?_
  refine Wk.cast C (wd hw 159) (Ins.self S.1) d26_18 ?_
  show Wk _ p l e _ s m _ below meth c n0 _ h0 0 0 (mkF m 21 #[.val (.ref o), .val (.ref a)] [(.ref a), (.ref o)])
  refine Wk.callV C (x := (⟨AB, "append", "(Ljava/lang/String;)Ljava/lang/AbstractStringBuilder;"⟩ : MethodName)) (z := (⟨SBN, "append", "(Ljava/lang/String;)Ljava/lang/AbstractStringBuilder;"⟩ : MethodName)) (K := SBN) (wd hw 160) (wd hw 161) (wd hw 163) (wd hw 164) (wd hw 109) (wd hw 165) (by decide) (fun s' hZ' => notFace_by (args := #[]) (mvT hZ' (hw _ (List.mem_of_getElem? (i := 179) rfl))) rfl) B.1 (own_bapp l Z a0 hw n0 h0 cs SC hcs a va n f S o vo cp no g B n1 n2 n3 n4 go gv hd) (w := 0) (by decide) (by decide) pd_6 rfl (rest := []) rfl rfl (Nat.le_of_eq rfl) (by decide) (by decide) d26_21 ?_
  rintro _ h1 ⟨rfl, K1, B1⟩
  show Wk _ p l e _ s m _ below meth c n0 _ h1 0 0 (mkF m 24 #[.val (.ref o), .val (.ref a)] [(.ref o)])
  exact Wk.retV C (t := (.object AB)) rfl rfl (Or.inr (Or.inr (Or.inr (Or.inr ⟨rfl, rfl, rfl⟩)))) d26_24 (by decide) (by decide) ⟨rfl, K1, B1⟩
theorem d25_0 : decode jdk_67_method_9_code 0 = .ok (.aload_n 0, 1) := by decide +kernel
theorem d25_1 : decode jdk_67_method_9_code 1 = .ok (.aload_n 1, 1) := by decide +kernel
theorem d25_2 : decode jdk_67_method_9_code 2 = .ok (.invokespecial 35, 3) := by decide +kernel
theorem d25_5 : decode jdk_67_method_9_code 5 = .ok (.pop, 1) := by decide +kernel
theorem d25_6 : decode jdk_67_method_9_code 6 = .ok (.aload_n 0, 1) := by decide +kernel
theorem d25_7 : decode jdk_67_method_9_code 7 = .ok (.areturn, 1) := by decide +kernel
set_option maxRecDepth 65536 in
set_option maxHeartbeats 40000000 in
theorem own_scs (l : Launch) (Z : State) (a0 : Array Value) (hw : ∀ d ∈ tables_1, d.before a0 Z = true) (n0 : Nat) (h0 : Heap) (cs : Int32) (SC : Sta Z h0 ST "COMPACT_STRINGS" "Z" (.int cs)) (hcs : ¬ cs = (0 : Int32)) (a va : Addr) (n : Nat) (f : Nat → Value) (S : Str Z h0 a va n f) (o vo : Addr) (cp no : Nat) (g : Nat → Value) (B : Sb Z h0 o vo cp no g) (n1 : a ≠ o) (n2 : a ≠ vo) (n3 : va ≠ o) (n4 : va ≠ vo) (go : n0 ≤ o) (gv : n0 ≤ vo) (hd : no + n ≤ cp) :
    Met false l Z n0 (⟨SBN, "append", "(Ljava/lang/CharSequence;)Ljava/lang/StringBuilder;"⟩ : MethodName) jdk_67_method_9_code 2 (some (.object SBN)) ({ frames := 7, cells := 0, slots := 0, locals := 109 } : Room) #[(.ref o), (.ref a)] h0 (fun r h => r = some (.ref o) ∧ Keep h0 h [o, vo] ∧ Sb Z h o vo cp (no + n) (cpf f g 0 no n)) := by
  refine Met.of (plainFor_of_name pn_2) #[.val (.ref o), .val (.ref a)] (fun m => by first | (simp [entryFrame, mkF, argsToLocals, Value.category]; done) | rfl) ?_
  intro p e s m below meth c C
  refine Wk.ald C d25_0 rfl rfl ?_
  refine Wk.ald C d25_1 rfl rfl ?_
  refine Wk.callSup C (z := (⟨AB, "append", "(Ljava/lang/CharSequence;)Ljava/lang/AbstractStringBuilder;"⟩ : MethodName)) (K := SBN) (wd hw 155) (same_self (wd hw 156) (hw _ (List.mem_of_getElem? (i := 179) rfl)) rfl (by decide)) (wd hw 156) (wd hw 136) (wd hw 121) (wd hw 158) (by decide) B.1 (own_acs l Z a0 hw n0 h0 cs SC hcs a va n f S o vo cp no g B n1 n2 n3 n4 go gv hd) (w := 0) (by decide) (by decide) pd_8 rfl (rest := []) rfl rfl (Nat.le_of_eq rfl) (by decide) (by decide) d25_2 ?_
  rintro _ h1 ⟨rfl, K1, B1⟩
  show Wk _ p l e _ s m _ below meth c n0 _ h1 0 0 (mkF m 5 #[.val (.ref o), .val (.ref a)] [(.ref o)])
  refine Wk.popS C d25_5 rfl ?_
  refine Wk.ald C d25_6 rfl rfl ?_
  exact Wk.retV C (t := (.object SBN)) rfl rfl (Or.inr (Or.inr (Or.inr (Or.inr ⟨rfl, rfl, rfl⟩)))) d25_7 (by decide) (by decide) ⟨rfl, K1, B1⟩
theorem d61_0 : decode jdk_68_method_67_code 0 = .ok (.getstatic 18, 3) := by decide +kernel
theorem d61_3 : decode jdk_68_method_67_code 3 = .ok (.ifCond .eq 10, 3) := by decide +kernel
theorem d61_6 : decode jdk_68_method_67_code 6 = .ok (.aload_n 0, 1) := by decide +kernel
theorem d61_7 : decode jdk_68_method_67_code 7 = .ok (.getfield 22, 3) := by decide +kernel
theorem d61_10 : decode jdk_68_method_67_code 10 = .ok (.goto 4, 3) := by decide +kernel
theorem d61_14 : decode jdk_68_method_67_code 14 = .ok (.ireturn, 1) := by decide +kernel
set_option maxRecDepth 65536 in
set_option maxHeartbeats 40000000 in
theorem own_gcod (l : Launch) (Z : State) (a0 : Array Value) (hw : ∀ d ∈ tables_1, d.before a0 Z = true) (n0 : Nat) (h0 : Heap) (cs : Int32) (SC : Sta Z h0 ST "COMPACT_STRINGS" "Z" (.int cs)) (hcs : ¬ cs = (0 : Int32)) (u vu : Addr) (cu nu : Nat) (gu : Nat → Value) (U : Sb Z h0 u vu cu nu gu) :
    Met false l Z n0 (⟨AB, "getCoder", "()B"⟩ : MethodName) jdk_68_method_67_code 1 (some .byte) ({ frames := 0, cells := 0, slots := 0, locals := 0 } : Room) #[(.ref u)] h0 (fun r h => r = some (.int (0 : Int32)) ∧ h0 = h) := by
  refine Met.of (plainFor_of_name pn_1) #[.val (.ref u)] (fun m => by first | (simp [entryFrame, mkF, argsToLocals, Value.category]; done) | rfl) ?_
  intro p e s m below meth c C
  refine Wk.getS C (wd hw 124) SC d61_0 ?_
  show Wk _ p l e _ s m _ below meth c n0 _ h0 0 0 (mkF m 3 #[.val (.ref u)] [(.int cs)])
  refine Wk.ifN C d61_3 (XT.i0_eq_f hcs) ?_
  refine Wk.ald C d61_6 rfl rfl ?_
  refine Wk.getF C (wd hw 127) Via.refl U.2.2.1 d61_7 ?_
  show Wk _ p l e _ s m _ below meth c n0 _ h0 0 0 (mkF m 10 #[.val (.ref u)] [(.int (0 : Int32))])
  refine Wk.gto C (pc' := 14) d61_10 (by decide) (by decide) ?_
  exact Wk.retV C (t := .byte) rfl rfl (Or.inl ⟨rfl, by simp, _, rfl⟩) d61_14 (by decide) (by decide) ⟨rfl, rfl⟩
theorem d60_0 : decode jdk_68_method_72_code 0 = .ok (.getstatic 18, 3) := by decide +kernel
theorem d60_3 : decode jdk_68_method_72_code 3 = .ok (.ifCond .eq 18, 3) := by decide +kernel
theorem d60_6 : decode jdk_68_method_72_code 6 = .ok (.aload_n 0, 1) := by decide +kernel
theorem d60_7 : decode jdk_68_method_72_code 7 = .ok (.getfield 22, 3) := by decide +kernel
theorem d60_10 : decode jdk_68_method_72_code 10 = .ok (.aload_n 1, 1) := by decide +kernel
theorem d60_11 : decode jdk_68_method_72_code 11 = .ok (.invokevirtual 70, 3) := by decide +kernel
theorem d60_14 : decode jdk_68_method_72_code 14 = .ok (.if_icmp .eq 7, 3) := by decide +kernel
theorem d60_21 : decode jdk_68_method_72_code 21 = .ok (.return_, 1) := by decide +kernel
set_option maxRecDepth 65536 in
set_option maxHeartbeats 40000000 in
theorem own_ifl2 (l : Launch) (Z : State) (a0 : Array Value) (hw : ∀ d ∈ tables_1, d.before a0 Z = true) (n0 : Nat) (h0 : Heap) (cs : Int32) (SC : Sta Z h0 ST "COMPACT_STRINGS" "Z" (.int cs)) (hcs : ¬ cs = (0 : Int32)) (u vu : Addr) (cu nu : Nat) (gu : Nat → Value) (U : Sb Z h0 u vu cu nu gu) (o vo : Addr) (cp no : Nat) (g : Nat → Value) (B : Sb Z h0 o vo cp no g) :
    Met false l Z n0 (⟨AB, "inflateIfNeededFor", "(Ljava/lang/AbstractStringBuilder;)V"⟩ : MethodName) jdk_68_method_72_code 2 none ({ frames := 1, cells := 0, slots := 0, locals := 13 } : Room) #[(.ref o), (.ref u)] h0 (fun r h => r = none ∧ h0 = h) := by
  refine Met.of (plainFor_of_name pn_1) #[.val (.ref o), .val (.ref u)] (fun m => by first | (simp [entryFrame, mkF, argsToLocals, Value.category]; done) | rfl) ?_
  intro p e s m below meth c C
  refine Wk.getS C (wd hw 124) SC d60_0 ?_
  show Wk _ p l e _ s m _ below meth c n0 _ h0 0 0 (mkF m 3 #[.val (.ref o), .val (.ref u)] [(.int cs)])
  refine Wk.ifN C d60_3 (XT.i0_eq_f hcs) ?_
  refine Wk.ald C d60_6 rfl rfl ?_
  refine Wk.getF C (wd hw 127) Via.refl B.2.2.1 d60_7 ?_
  show Wk _ p l e _ s m _ below meth c n0 _ h0 0 0 (mkF m 10 #[.val (.ref o), .val (.ref u)] [(.int (0 : Int32))])
  refine Wk.ald C d60_10 rfl rfl ?_
  refine Wk.callV C (x := (⟨AB, "getCoder", "()B"⟩ : MethodName)) (z := (⟨AB, "getCoder", "()B"⟩ : MethodName)) (K := SBN) (wd hw 343) (wd hw 344) (wd hw 346) (wd hw 345) (wd hw 121) (wd hw 347) (by decide) (fun s' hZ' => notFace_of_selects (args := #[]) (mvT hZ' (wd hw 346))) U.1 (own_gcod l Z a0 hw n0 h0 cs SC hcs u vu cu nu gu U) (w := 1) (by decide) (by decide) pd_0 rfl (rest := [(.int (0 : Int32))]) rfl rfl (Nat.le_of_eq rfl) (by decide) (by decide) d60_11 ?_
  rintro _ _ ⟨rfl, rfl⟩
  show Wk _ p l e _ s m _ below meth c n0 _ h0 0 0 (mkF m 14 #[.val (.ref o), .val (.ref u)] [(.int (0 : Int32)), (.int (0 : Int32))])
  refine Wk.icY C (pc' := 21) d60_14 (XT.ii_eq_t (by decide)) (by decide) (by decide) ?_
  exact Wk.retN0 C rfl d60_21 (by decide) (by decide) ⟨rfl, rfl⟩
theorem d62_0 : decode jdk_68_method_65_code 0 = .ok (.aload_n 0, 1) := by decide +kernel
theorem d62_1 : decode jdk_68_method_65_code 1 = .ok (.getfield 22, 3) := by decide +kernel
theorem d62_4 : decode jdk_68_method_65_code 4 = .ok (.iload_n 3, 1) := by decide +kernel
theorem d62_5 : decode jdk_68_method_65_code 5 = .ok (.if_icmp .ne 24, 3) := by decide +kernel
theorem d62_8 : decode jdk_68_method_65_code 8 = .ok (.aload_n 0, 1) := by decide +kernel
theorem d62_9 : decode jdk_68_method_65_code 9 = .ok (.getfield 15, 3) := by decide +kernel
theorem d62_12 : decode jdk_68_method_65_code 12 = .ok (.iconst 0, 1) := by decide +kernel
theorem d62_13 : decode jdk_68_method_65_code 13 = .ok (.aload_n 1, 1) := by decide +kernel
theorem d62_14 : decode jdk_68_method_65_code 14 = .ok (.iload_n 2, 1) := by decide +kernel
theorem d62_15 : decode jdk_68_method_65_code 15 = .ok (.iload_n 3, 1) := by decide +kernel
theorem d62_16 : decode jdk_68_method_65_code 16 = .ok (.ishl, 1) := by decide +kernel
theorem d62_17 : decode jdk_68_method_65_code 17 = .ok (.aload_n 0, 1) := by decide +kernel
theorem d62_18 : decode jdk_68_method_65_code 18 = .ok (.getfield 79, 3) := by decide +kernel
theorem d62_21 : decode jdk_68_method_65_code 21 = .ok (.iload_n 3, 1) := by decide +kernel
theorem d62_22 : decode jdk_68_method_65_code 22 = .ok (.ishl, 1) := by decide +kernel
theorem d62_23 : decode jdk_68_method_65_code 23 = .ok (.invokestatic 309, 3) := by decide +kernel
theorem d62_26 : decode jdk_68_method_65_code 26 = .ok (.goto 17, 3) := by decide +kernel
theorem d62_43 : decode jdk_68_method_65_code 43 = .ok (.return_, 1) := by decide +kernel
set_option maxRecDepth 65536 in
set_option maxHeartbeats 40000000 in
theorem own_agb (l : Launch) (Z : State) (a0 : Array Value) (hw : ∀ d ∈ tables_1, d.before a0 Z = true) (n0 : Nat) (h0 : Heap) (u vu : Addr) (cu nu : Nat) (gu : Nat → Value) (U : Sb Z h0 u vu cu nu gu) (vd : Addr) (gd : Nat → Value) (mx d : Nat) (FD : Fa Z h0 vd .byte mx gd) (gv : n0 ≤ vd) (n2 : u ≠ vd) (n4 : vu ≠ vd) (hd : d + nu ≤ mx) (hmx : mx < 1000) :
    Met false l Z n0 (⟨AB, "getBytes", "([BIB)V"⟩ : MethodName) jdk_68_method_65_code 4 none ({ frames := 1, cells := 0, slots := 0, locals := 27 } : Room) #[(.ref u), (.ref vd), (.int (Int32.ofNat d)), (.int (0 : Int32))] h0 (fun r h => r = none ∧ Keep h0 h [vd] ∧ Fa Z h vd .byte mx (cpf gu gd 0 d nu)) := by
  refine Met.of (plainFor_of_name pn_1) #[.val (.ref u), .val (.ref vd), .val (.int (Int32.ofNat d)), .val (.int (0 : Int32))] (fun m => by first | (simp [entryFrame, mkF, argsToLocals, Value.category]; done) | rfl) ?_
  intro p e s m below meth c C
  have hU := U.2.2.2.2.2.2.2.2.2
  refine Wk.ald C d62_0 rfl rfl ?_
  refine Wk.getF C (wd hw 127) Via.refl U.2.2.1 d62_1 ?_
  show Wk _ p l e _ s m _ below meth c n0 _ h0 0 0 (mkF m 4 #[.val (.ref u), .val (.ref vd), .val (.int (Int32.ofNat d)), .val (.int (0 : Int32))] [(.int (0 : Int32))])
  refine Wk.ild C d62_4 rfl ?_
  refine Wk.icN C d62_5 (XT.ii_ne_f (by decide)) ?_
  refine Wk.ald C d62_8 rfl rfl ?_
  refine Wk.getF C (wd hw 125) Via.refl U.2.1 d62_9 ?_
  show Wk _ p l e _ s m _ below meth c n0 _ h0 0 0 (mkF m 12 #[.val (.ref u), .val (.ref vd), .val (.int (Int32.ofNat d)), .val (.int (0 : Int32))] [(.ref vu)])
  refine Wk.st (g' := (mkF m 13 #[.val (.ref u), .val (.ref vd), .val (.int (Int32.ofNat d)), .val (.int (0 : Int32))] [(.int (0 : Int32)), (.ref vu)])) (fun X t q => XS.iconst X.here C.hx rfl (hb C.hby d62_12) q) ?_
  refine Wk.ald C d62_13 rfl rfl ?_
  refine Wk.ild C d62_14 rfl ?_
  refine Wk.ild C d62_15 rfl ?_
  refine Wk.st (g' := (mkF m 17 #[.val (.ref u), .val (.ref vd), .val (.int (Int32.ofNat d)), .val (.int (0 : Int32))] [(.int ((Int32.ofNat d) <<< ((0 : Int32) &&& 31))), (.ref vd), (.int (0 : Int32)), (.ref vu)])) (fun X t q => XS.ishl X.here C.hx rfl (hb C.hby d62_16) rfl q) ?_
  rw [show ((Int32.ofNat d) <<< ((0 : Int32) &&& 31)) = (Int32.ofNat d) from shl0 _]
  show Wk _ p l e _ s m _ below meth c n0 _ h0 0 0 (mkF m 17 #[.val (.ref u), .val (.ref vd), .val (.int (Int32.ofNat d)), .val (.int (0 : Int32))] [(.int (Int32.ofNat d)), (.ref vd), (.int (0 : Int32)), (.ref vu)])
  refine Wk.ald C d62_17 rfl rfl ?_
  refine Wk.getF C (wd hw 139) Via.refl U.2.2.2.1 d62_18 ?_
  show Wk _ p l e _ s m _ below meth c n0 _ h0 0 0 (mkF m 21 #[.val (.ref u), .val (.ref vd), .val (.int (Int32.ofNat d)), .val (.int (0 : Int32))] [(.int (Int32.ofNat nu)), (.int (Int32.ofNat d)), (.ref vd), (.int (0 : Int32)), (.ref vu)])
  refine Wk.ild C d62_21 rfl ?_
  refine Wk.st (g' := (mkF m 23 #[.val (.ref u), .val (.ref vd), .val (.int (Int32.ofNat d)), .val (.int (0 : Int32))] [(.int ((Int32.ofNat nu) <<< ((0 : Int32) &&& 31))), (.int (Int32.ofNat d)), (.ref vd), (.int (0 : Int32)), (.ref vu)])) (fun X t q => XS.ishl X.here C.hx rfl (hb C.hby d62_22) rfl q) ?_
  rw [show ((Int32.ofNat nu) <<< ((0 : Int32) &&& 31)) = (Int32.ofNat nu) from shl0 _]
  show Wk _ p l e _ s m _ below meth c n0 _ h0 0 0 (mkF m 23 #[.val (.ref u), .val (.ref vd), .val (.int (Int32.ofNat d)), .val (.int (0 : Int32))] [(.int (Int32.ofNat nu)), (.int (Int32.ofNat d)), (.ref vd), (.int (0 : Int32)), (.ref vu)])
  refine Wk.acopy C (wd hw 353) (wd hw 200) (wd hw 198) (wd hw 199) U.2.2.2.2.2.1 FD rfl (sp := 0) (dp := d) (nn := nu) (by omega) (by omega) U.2.2.2.2.2.2.2.2.1 gv rfl d62_23 (by decide) (w := 0) (Nat.le_of_eq rfl) (by decide) ?_
  intro h1 K2 F3
  have F4 : Exa Z h1 u SBN := U.1.keep K2
  have F5 : Fld Z h1 u AB "value" "[B" (.ref vu) := U.2.1.keep K2 (nmS n2 nm0)
  have F6 : Fld Z h1 u AB "coder" "B" (.int (0 : Int32)) := U.2.2.1.keep K2 (nmS n2 nm0)
  have F7 : Fld Z h1 u AB "count" "I" (.int (Int32.ofNat nu)) := U.2.2.2.1.keep K2 (nmS n2 nm0)
  have F8 : Fld Z h1 u AB "maybeLatin1" "Z" (.int (0 : Int32)) := U.2.2.2.2.1.keep K2 (nmS n2 nm0)
  have F9 : Fa Z h1 vu .byte cu gu := U.2.2.2.2.2.1.keep K2 (nmS n4 nm0)
  have F10 : Exa Z h1 vu "[B" := U.2.2.2.2.2.2.1.keep K2
  have K11 := (Keep.refl h0 [vd]).trans K2 (nvS (Or.inl (by simp)) nv0)
  show Wk _ p l e _ s m _ below meth c n0 _ h1 0 0 (mkF m 26 #[.val (.ref u), .val (.ref vd), .val (.int (Int32.ofNat d)), .val (.int (0 : Int32))] [])
  refine Wk.gto C (pc' := 43) d62_26 (by decide) (by decide) ?_
  exact Wk.retN0 C rfl d62_43 (by decide) (by decide) ⟨rfl, K11, F3⟩
theorem d59_0 : decode jdk_68_method_24_code 0 = .ok (.aload_n 1, 1) := by decide +kernel
theorem d59_1 : decode jdk_68_method_24_code 1 = .ok (.ifnonnull 8, 3) := by decide +kernel
theorem d59_9 : decode jdk_68_method_24_code 9 = .ok (.aload_n 1, 1) := by decide +kernel
theorem d59_10 : decode jdk_68_method_24_code 10 = .ok (.invokevirtual 160, 3) := by decide +kernel
theorem d59_13 : decode jdk_68_method_24_code 13 = .ok (.istore_n 2, 1) := by decide +kernel
theorem d59_14 : decode jdk_68_method_24_code 14 = .ok (.aload_n 0, 1) := by decide +kernel
theorem d59_15 : decode jdk_68_method_24_code 15 = .ok (.aload_n 0, 1) := by decide +kernel
theorem d59_16 : decode jdk_68_method_24_code 16 = .ok (.getfield 79, 3) := by decide +kernel
theorem d59_19 : decode jdk_68_method_24_code 19 = .ok (.iload_n 2, 1) := by decide +kernel
theorem d59_20 : decode jdk_68_method_24_code 20 = .ok (.iadd, 1) := by decide +kernel
theorem d59_21 : decode jdk_68_method_24_code 21 = .ok (.invokevirtual 100, 3) := by decide +kernel
theorem d59_24 : decode jdk_68_method_24_code 24 = .ok (.aload_n 0, 1) := by decide +kernel
theorem d59_25 : decode jdk_68_method_24_code 25 = .ok (.aload_n 1, 1) := by decide +kernel
theorem d59_26 : decode jdk_68_method_24_code 26 = .ok (.invokevirtual 215, 3) := by decide +kernel
theorem d59_29 : decode jdk_68_method_24_code 29 = .ok (.aload_n 1, 1) := by decide +kernel
theorem d59_30 : decode jdk_68_method_24_code 30 = .ok (.aload_n 0, 1) := by decide +kernel
theorem d59_31 : decode jdk_68_method_24_code 31 = .ok (.getfield 15, 3) := by decide +kernel
theorem d59_34 : decode jdk_68_method_24_code 34 = .ok (.aload_n 0, 1) := by decide +kernel
theorem d59_35 : decode jdk_68_method_24_code 35 = .ok (.getfield 79, 3) := by decide +kernel
theorem d59_38 : decode jdk_68_method_24_code 38 = .ok (.aload_n 0, 1) := by decide +kernel
theorem d59_39 : decode jdk_68_method_24_code 39 = .ok (.getfield 22, 3) := by decide +kernel
theorem d59_42 : decode jdk_68_method_24_code 42 = .ok (.invokevirtual 219, 3) := by decide +kernel
theorem d59_45 : decode jdk_68_method_24_code 45 = .ok (.aload_n 0, 1) := by decide +kernel
theorem d59_46 : decode jdk_68_method_24_code 46 = .ok (.dup, 1) := by decide +kernel
theorem d59_47 : decode jdk_68_method_24_code 47 = .ok (.getfield 79, 3) := by decide +kernel
theorem d59_50 : decode jdk_68_method_24_code 50 = .ok (.iload_n 2, 1) := by decide +kernel
theorem d59_51 : decode jdk_68_method_24_code 51 = .ok (.iadd, 1) := by decide +kernel
theorem d59_52 : decode jdk_68_method_24_code 52 = .ok (.putfield 79, 3) := by decide +kernel
theorem d59_55 : decode jdk_68_method_24_code 55 = .ok (.aload_n 0, 1) := by decide +kernel
theorem d59_56 : decode jdk_68_method_24_code 56 = .ok (.dup, 1) := by decide +kernel
theorem d59_57 : decode jdk_68_method_24_code 57 = .ok (.getfield 73, 3) := by decide +kernel
theorem d59_60 : decode jdk_68_method_24_code 60 = .ok (.aload_n 1, 1) := by decide +kernel
theorem d59_61 : decode jdk_68_method_24_code 61 = .ok (.getfield 73, 3) := by decide +kernel
theorem d59_64 : decode jdk_68_method_24_code 64 = .ok (.ior, 1) := by decide +kernel
theorem d59_65 : decode jdk_68_method_24_code 65 = .ok (.putfield 73, 3) := by decide +kernel
theorem d59_68 : decode jdk_68_method_24_code 68 = .ok (.aload_n 0, 1) := by decide +kernel
theorem d59_69 : decode jdk_68_method_24_code 69 = .ok (.areturn, 1) := by decide +kernel
set_option maxRecDepth 65536 in
set_option maxHeartbeats 40000000 in
theorem own_aapp (l : Launch) (Z : State) (a0 : Array Value) (hw : ∀ d ∈ tables_1, d.before a0 Z = true) (n0 : Nat) (h0 : Heap) (cs : Int32) (SC : Sta Z h0 ST "COMPACT_STRINGS" "Z" (.int cs)) (hcs : ¬ cs = (0 : Int32)) (u vu : Addr) (cu nu : Nat) (gu : Nat → Value) (U : Sb Z h0 u vu cu nu gu) (o vo : Addr) (cp no : Nat) (g : Nat → Value) (B : Sb Z h0 o vo cp no g) (m1 : u ≠ o) (m2 : u ≠ vo) (m3 : vu ≠ o) (m4 : vu ≠ vo) (go : n0 ≤ o) (gv : n0 ≤ vo) (hd : no + nu ≤ cp) :
    Met false l Z n0 (⟨AB, "append", "(Ljava/lang/AbstractStringBuilder;)Ljava/lang/AbstractStringBuilder;"⟩ : MethodName) jdk_68_method_24_code 3 (some (.object AB)) ({ frames := 2, cells := 0, slots := 0, locals := 42 } : Room) #[(.ref o), (.ref u)] h0 (fun r h => r = some (.ref o) ∧ Keep h0 h [o, vo] ∧ Sb Z h o vo cp (no + nu) (cpf gu g 0 no nu)) := by
  refine Met.of (plainFor_of_name pn_1) #[.val (.ref o), .val (.ref u), .unset] (fun m => by first | (simp [entryFrame, mkF, argsToLocals, Value.category]; done) | rfl) ?_
  intro p e s m below meth c C
  have hB := B.2.2.2.2.2.2.2.2.2
  have hU := U.2.2.2.2.2.2.2.2.2
  refine Wk.ald C d59_0 rfl rfl ?_
  refine Wk.st (g' := (mkF m 9 #[.val (.ref o), .val (.ref u), .unset] [])) (fun X t q => XS.ifnonnullYes X.here C.hx rfl (pc0 := 1) (pc' := 9) rfl (hb C.hby d59_1) rfl (by decide) (by decide) q) ?_
  refine Wk.ald C d59_9 rfl rfl ?_
  refine Wk.callV C (x := (⟨AB, "length", "()I"⟩ : MethodName)) (z := (⟨SBN, "length", "()I"⟩ : MethodName)) (K := SBN) (wd hw 337) (wd hw 137) (wd hw 230) (wd hw 131) (wd hw 109) (wd hw 133) (by decide) (fun s' hZ' => notFace_by (args := #[]) (mvT hZ' (hw _ (List.mem_of_getElem? (i := 179) rfl))) rfl) U.1 (own_slen l Z a0 hw n0 h0 u vu cu nu gu U) (w := 0) (by decide) (by decide) pd_1 rfl (rest := []) rfl rfl (Nat.le_of_eq rfl) (by decide) (by decide) d59_10 ?_
  rintro _ _ ⟨rfl, rfl⟩
  show Wk _ p l e _ s m _ below meth c n0 _ h0 0 0 (mkF m 13 #[.val (.ref o), .val (.ref u), .unset] [(.int (Int32.ofNat nu))])
  refine Wk.st (g' := (mkF m 14 #[.val (.ref o), .val (.ref u), .val (.int (Int32.ofNat nu))] [])) (fun X t q => XS.istoreN X.here C.hx rfl (hb C.hby d59_13) rfl (l' := #[.val (.ref o), .val (.ref u), .val (.int (Int32.ofNat nu))]) rfl q) ?_
  refine Wk.ald C d59_14 rfl rfl ?_
  refine Wk.ald C d59_15 rfl rfl ?_
  refine Wk.getF C (wd hw 139) Via.refl B.2.2.2.1 d59_16 ?_
  show Wk _ p l e _ s m _ below meth c n0 _ h0 0 0 (mkF m 19 #[.val (.ref o), .val (.ref u), .val (.int (Int32.ofNat nu))] [(.int (Int32.ofNat no)), (.ref o)])
  refine Wk.ild C d59_19 rfl ?_
  refine Wk.st (g' := (mkF m 21 #[.val (.ref o), .val (.ref u), .val (.int (Int32.ofNat nu))] [(.int ((Int32.ofNat no) + (Int32.ofNat nu))), (.ref o)])) (fun X t q => XS.iadd X.here C.hx rfl (hb C.hby d59_20) rfl q) ?_
  rw [show ((Int32.ofNat no) + (Int32.ofNat nu)) = (Int32.ofNat (no + nu)) from add32 (by omega)]
  show Wk _ p l e _ s m _ below meth c n0 _ h0 0 0 (mkF m 21 #[.val (.ref o), .val (.ref u), .val (.int (Int32.ofNat nu))] [(.int (Int32.ofNat (no + nu))), (.ref o)])
  refine Wk.callP2 C (z := (⟨AB, "ensureCapacityInternal", "(I)V"⟩ : MethodName)) (K := SBN) (K' := SBN) (wd hw 176) (wd hw 177) (wd hw 178) (wd hw 179) (wd hw 121) (wd hw 180) (by decide) B.1 (own_ens l Z a0 hw n0 h0 o vo cp no g B (no + nu) hd) (w := 0) (by decide) (by decide) pd_2 rfl (rest := []) rfl rfl (Nat.le_of_eq rfl) (by decide) (by decide) d59_21 ?_
  rintro _ _ ⟨rfl, rfl⟩
  show Wk _ p l e _ s m _ below meth c n0 _ h0 0 0 (mkF m 24 #[.val (.ref o), .val (.ref u), .val (.int (Int32.ofNat nu))] [])
  refine Wk.ald C d59_24 rfl rfl ?_
  refine Wk.ald C d59_25 rfl rfl ?_
  refine Wk.callP2 C (z := (⟨AB, "inflateIfNeededFor", "(Ljava/lang/AbstractStringBuilder;)V"⟩ : MethodName)) (K := SBN) (K' := SBN) (wd hw 338) (wd hw 339) (wd hw 340) (wd hw 341) (wd hw 121) (wd hw 342) (by decide) B.1 (own_ifl2 l Z a0 hw n0 h0 cs SC hcs u vu cu nu gu U o vo cp no g B) (w := 0) (by decide) (by decide) pd_9 rfl (rest := []) rfl rfl (Nat.le_of_eq rfl) (by decide) (by decide) d59_26 ?_
  rintro _ _ ⟨rfl, rfl⟩
  show Wk _ p l e _ s m _ below meth c n0 _ h0 0 0 (mkF m 29 #[.val (.ref o), .val (.ref u), .val (.int (Int32.ofNat nu))] [])
  refine Wk.ald C d59_29 rfl rfl ?_
  refine Wk.ald C d59_30 rfl rfl ?_
  refine Wk.getF C (wd hw 125) Via.refl B.2.1 d59_31 ?_
  show Wk _ p l e _ s m _ below meth c n0 _ h0 0 0 (mkF m 34 #[.val (.ref o), .val (.ref u), .val (.int (Int32.ofNat nu))] [(.ref vo), (.ref u)])
  refine Wk.ald C d59_34 rfl rfl ?_
  refine Wk.getF C (wd hw 139) Via.refl B.2.2.2.1 d59_35 ?_
  show Wk _ p l e _ s m _ below meth c n0 _ h0 0 0 (mkF m 38 #[.val (.ref o), .val (.ref u), .val (.int (Int32.ofNat nu))] [(.int (Int32.ofNat no)), (.ref vo), (.ref u)])
  refine Wk.ald C d59_38 rfl rfl ?_
  refine Wk.getF C (wd hw 127) Via.refl B.2.2.1 d59_39 ?_
  show Wk _ p l e _ s m _ below meth c n0 _ h0 0 0 (mkF m 42 #[.val (.ref o), .val (.ref u), .val (.int (Int32.ofNat nu))] [(.int (0 : Int32)), (.int (Int32.ofNat no)), (.ref vo), (.ref u)])
  refine Wk.callV C (x := (⟨AB, "getBytes", "([BIB)V"⟩ : MethodName)) (z := (⟨AB, "getBytes", "([BIB)V"⟩ : MethodName)) (K := SBN) (wd hw 348) (wd hw 349) (wd hw 351) (wd hw 350) (wd hw 121) (wd hw 352) (by decide) (fun s' hZ' => notFace_of_selects (args := #[]) (mvT hZ' (wd hw 351))) U.1 (own_agb l Z a0 hw n0 h0 u vu cu nu gu U vo g cp no B.2.2.2.2.2.1 gv m2 m4 hd hB.2) (w := 0) (by decide) (by decide) pd_4 rfl (rest := []) rfl rfl (Nat.le_of_eq rfl) (by decide) (by decide) d59_42 ?_
  rintro _ h1 ⟨rfl, K2, Fq3⟩
  show Wk _ p l e _ s m _ below meth c n0 _ h1 0 0 (mkF m 45 #[.val (.ref o), .val (.ref u), .val (.int (Int32.ofNat nu))] [])
  have F4 : Sta Z h1 ST "COMPACT_STRINGS" "Z" (.int cs) := sta_keep SC K2 (nvS (exa_ns B.2.2.2.2.2.2.1) nv0)
  have F5 : Exa Z h1 u SBN := U.1.keep K2
  have F6 : Fld Z h1 u AB "value" "[B" (.ref vu) := U.2.1.keep K2 (nmS m2 nm0)
  have F7 : Fld Z h1 u AB "coder" "B" (.int (0 : Int32)) := U.2.2.1.keep K2 (nmS m2 nm0)
  have F8 : Fld Z h1 u AB "count" "I" (.int (Int32.ofNat nu)) := U.2.2.2.1.keep K2 (nmS m2 nm0)
  have F9 : Fld Z h1 u AB "maybeLatin1" "Z" (.int (0 : Int32)) := U.2.2.2.2.1.keep K2 (nmS m2 nm0)
  have F10 : Fa Z h1 vu .byte cu gu := U.2.2.2.2.2.1.keep K2 (nmS m4 nm0)
  have F11 : Exa Z h1 vu "[B" := U.2.2.2.2.2.2.1.keep K2
  have F12 : Exa Z h1 o SBN := B.1.keep K2
  have F13 : Fld Z h1 o AB "value" "[B" (.ref vo) := B.2.1.keep K2 (nmS B.2.2.2.2.2.2.2.1 nm0)
  have F14 : Fld Z h1 o AB "coder" "B" (.int (0 : Int32)) := B.2.2.1.keep K2 (nmS B.2.2.2.2.2.2.2.1 nm0)
  have F15 : Fld Z h1 o AB "count" "I" (.int (Int32.ofNat no)) := B.2.2.2.1.keep K2 (nmS B.2.2.2.2.2.2.2.1 nm0)
  have F16 : Fld Z h1 o AB "maybeLatin1" "Z" (.int (0 : Int32)) := B.2.2.2.2.1.keep K2 (nmS B.2.2.2.2.2.2.2.1 nm0)
  have F17 : Exa Z h1 vo "[B" := B.2.2.2.2.2.2.1.keep K2
  have K18 := (Keep.refl h0 [o, vo]).trans K2 (nvS (Or.inl (by simp)) nv0)
  refine Wk.ald C d59_45 rfl rfl ?_
  refine Wk.dupS C d59_46 rfl ?_
  refine Wk.getF C (wd hw 139) Via.refl F15 d59_47 ?_
  show Wk _ p l e _ s m _ below meth c n0 _ h1 0 0 (mkF m 50 #[.val (.ref o), .val (.ref u), .val (.int (Int32.ofNat nu))] [(.int (Int32.ofNat no)), (.ref o)])
  refine Wk.ild C d59_50 rfl ?_
  refine Wk.st (g' := (mkF m 52 #[.val (.ref o), .val (.ref u), .val (.int (Int32.ofNat nu))] [(.int ((Int32.ofNat no) + (Int32.ofNat nu))), (.ref o)])) (fun X t q => XS.iadd X.here C.hx rfl (hb C.hby d59_51) rfl q) ?_
  rw [show ((Int32.ofNat no) + (Int32.ofNat nu)) = (Int32.ofNat (no + nu)) from add32 (by omega)]
  show Wk _ p l e _ s m _ below meth c n0 _ h1 0 0 (mkF m 52 #[.val (.ref o), .val (.ref u), .val (.int (Int32.ofNat nu))] [(.int (Int32.ofNat (no + nu))), (.ref o)])
  refine Wk.putF C (wd hw 139) Via.refl F15 F12 (Or.inl (wd hw 140)) (wd hw 108) (ty := .int) (by decide) (v' := (.int (Int32.ofNat (no + nu)))) rfl rfl go d59_52 ?_
  intro h19 W20
  have F21 : Fld Z h19 o AB "count" "I" (.int (Int32.ofNat (no + nu))) := F15.same W20
  have F22 : Sta Z h19 ST "COMPACT_STRINGS" "Z" (.int cs) := F4.wr W20
  have F23 : Exa Z h19 u SBN := F5.wr W20
  have F24 : Fld Z h19 u AB "value" "[B" (.ref vu) := F6.other W20 (Or.inl m1)
  have F25 : Fld Z h19 u AB "coder" "B" (.int (0 : Int32)) := F7.other W20 (Or.inl m1)
  have F26 : Fld Z h19 u AB "count" "I" (.int (Int32.ofNat nu)) := F8.other W20 (Or.inl m1)
  have F27 : Fld Z h19 u AB "maybeLatin1" "Z" (.int (0 : Int32)) := F9.other W20 (Or.inl m1)
  have F28 : Fa Z h19 vu .byte cu gu := F10.other W20 m3
  have F29 : Exa Z h19 vu "[B" := F11.wr W20
  have F30 : Exa Z h19 o SBN := F12.wr W20
  have F31 : Fld Z h19 o AB "value" "[B" (.ref vo) := F13.other W20 (Or.inr (slot_ne (Or.inl (wd hw 126)) (Or.inl (wd hw 140)) (by decide) (t := (.array .byte)) (t' := .int) (by decide) (by decide)))
  have F32 : Fld Z h19 o AB "coder" "B" (.int (0 : Int32)) := F14.other W20 (Or.inr (slot_ne (Or.inl (wd hw 128)) (Or.inl (wd hw 140)) (by decide) (t := .byte) (t' := .int) (by decide) (by decide)))
  have F33 : Fld Z h19 o AB "maybeLatin1" "Z" (.int (0 : Int32)) := F16.other W20 (Or.inr (slot_ne (Or.inl (wd hw 355)) (Or.inl (wd hw 140)) (by decide) (t := .boolean) (t' := .int) (by decide) (by decide)))
  have F34 : Exa Z h19 vo "[B" := F17.wr W20
  have F35 : Fa Z h19 vo .byte cp (cpf gu g 0 no nu) := Fq3.other W20 (Ne.symm B.2.2.2.2.2.2.2.1)
  have K36 := K18.wr W20 (Or.inl (by simp))
  show Wk _ p l e _ s m _ below meth c n0 _ h19 0 0 (mkF m 55 #[.val (.ref o), .val (.ref u), .val (.int (Int32.ofNat nu))] [])
  refine Wk.ald C d59_55 rfl rfl ?_
  refine Wk.dupS C d59_56 rfl ?_
  refine Wk.getF C (wd hw 354) Via.refl F33 d59_57 ?_
  show Wk _ p l e _ s m _ below meth c n0 _ h19 0 0 (mkF m 60 #[.val (.ref o), .val (.ref u), .val (.int (Int32.ofNat nu))] [(.int (0 : Int32)), (.ref o)])
  refine Wk.ald C d59_60 rfl rfl ?_
  refine Wk.getF C (wd hw 354) Via.refl F27 d59_61 ?_
  show Wk _ p l e _ s m _ below meth c n0 _ h19 0 0 (mkF m 64 #[.val (.ref o), .val (.ref u), .val (.int (Int32.ofNat nu))] [(.int (0 : Int32)), (.int (0 : Int32)), (.ref o)])
  refine Wk.st (g' := (mkF m 65 #[.val (.ref o), .val (.ref u), .val (.int (Int32.ofNat nu))] [(.int (0 : Int32)), (.ref o)])) (fun X t q => XS.ior X.here C.hx rfl (hb C.hby d59_64) rfl q) ?_
  refine Wk.putF C (wd hw 354) Via.refl F33 F30 (Or.inl (wd hw 355)) (wd hw 108) (ty := .boolean) (by decide) (v' := (.int (0 : Int32))) rfl (by decide) go d59_65 ?_
  intro h37 W38
  have F39 : Fld Z h37 o AB "maybeLatin1" "Z" (.int (0 : Int32)) := F33.same W38
  have F40 : Sta Z h37 ST "COMPACT_STRINGS" "Z" (.int cs) := F22.wr W38
  have F41 : Exa Z h37 u SBN := F23.wr W38
  have F42 : Fld Z h37 u AB "value" "[B" (.ref vu) := F24.other W38 (Or.inl m1)
  have F43 : Fld Z h37 u AB "coder" "B" (.int (0 : Int32)) := F25.other W38 (Or.inl m1)
  have F44 : Fld Z h37 u AB "count" "I" (.int (Int32.ofNat nu)) := F26.other W38 (Or.inl m1)
  have F45 : Fld Z h37 u AB "maybeLatin1" "Z" (.int (0 : Int32)) := F27.other W38 (Or.inl m1)
  have F46 : Fa Z h37 vu .byte cu gu := F28.other W38 m3
  have F47 : Exa Z h37 vu "[B" := F29.wr W38
  have F48 : Exa Z h37 o SBN := F30.wr W38
  have F49 : Fld Z h37 o AB "value" "[B" (.ref vo) := F31.other W38 (Or.inr (slot_ne (Or.inl (wd hw 126)) (Or.inl (wd hw 355)) (by decide) (t := (.array .byte)) (t' := .boolean) (by decide) (by decide)))
  have F50 : Fld Z h37 o AB "coder" "B" (.int (0 : Int32)) := F32.other W38 (Or.inr (slot_ne (Or.inl (wd hw 128)) (Or.inl (wd hw 355)) (by decide) (t := .byte) (t' := .boolean) (by decide) (by decide)))
  have F51 : Exa Z h37 vo "[B" := F34.wr W38
  have F52 : Fa Z h37 vo .byte cp (cpf gu g 0 no nu) := F35.other W38 (Ne.symm B.2.2.2.2.2.2.2.1)
  have F53 : Fld Z h37 o AB "count" "I" (.int (Int32.ofNat (no + nu))) := F21.other W38 (Or.inr (slot_ne (Or.inl (wd hw 140)) (Or.inl (wd hw 355)) (by decide) (t := .int) (t' := .boolean) (by decide) (by decide)))
  have K54 := K36.wr W38 (Or.inl (by simp))
  show Wk _ p l e _ s m _ below meth c n0 _ h37 0 0 (mkF m 68 #[.val (.ref o), .val (.ref u), .val (.int (Int32.ofNat nu))] [])
  refine Wk.ald C d59_68 rfl rfl ?_
  exact Wk.retV C (t := (.object AB)) rfl rfl (Or.inr (Or.inr (Or.inr (Or.inr ⟨rfl, rfl, rfl⟩)))) d59_69 (by decide) (by decide) ⟨rfl, K54, ⟨F48, F49, F50, F53, F39, F52, F51, B.2.2.2.2.2.2.2.1, (FT.cpf U.2.2.2.2.2.2.2.2.1 B.2.2.2.2.2.2.2.2.1 (by omega)), hd, hB.2⟩⟩
set_option maxRecDepth 65536 in
set_option maxHeartbeats 40000000 in
theorem own_acs2 (l : Launch) (Z : State) (a0 : Array Value) (hw : ∀ d ∈ tables_1, d.before a0 Z = true) (n0 : Nat) (h0 : Heap) (cs : Int32) (SC : Sta Z h0 ST "COMPACT_STRINGS" "Z" (.int cs)) (hcs : ¬ cs = (0 : Int32)) (u vu : Addr) (cu nu : Nat) (gu : Nat → Value) (U : Sb Z h0 u vu cu nu gu) (o vo : Addr) (cp no : Nat) (g : Nat → Value) (B : Sb Z h0 o vo cp no g) (m1 : u ≠ o) (m2 : u ≠ vo) (m3 : vu ≠ o) (m4 : vu ≠ vo) (go : n0 ≤ o) (gv : n0 ≤ vo) (hd : no + nu ≤ cp) :
    Met false l Z n0 (⟨AB, "append", "(Ljava/lang/CharSequence;)Ljava/lang/AbstractStringBuilder;"⟩ : MethodName) jdk_68_method_25_code 2 (some (.object AB)) ({ frames := 3, cells := 0, slots := 0, locals := 56 } : Room) #[(.ref o), (.ref u)] h0 (fun r h => r = some (.ref o) ∧ Keep h0 h [o, vo] ∧ Sb Z h o vo cp (no + nu) (cpf gu g 0 no nu)) := by
  refine Met.of (plainFor_of_name pn_1) #[.val (.ref o), .val (.ref u)] (fun m => by first | (simp [entryFrame, mkF, argsToLocals, Value.category]; done) | rfl) ?_
  intro p e s m below meth c C
  refine Wk.ald C d26_0 rfl rfl ?_
  refine Wk.st (g' := (mkF m 9 #[.val (.ref o), .val (.ref u)] [])) (fun X t q => XS.ifnonnullYes X.here C.hx rfl (pc0 := 1) (pc' := 9) rfl (hb C.hby d26_1) rfl (by decide) (by decide) q) ?_
  refine Wk.ald C d26_9 rfl rfl ?_
  refine Wk.isN C (wd hw 159) U.1 (sb_not_str (wd hw 136) (wd hw 329) (wd hw 330) (wd hw 6)) d26_10 ?_
  show Wk _ p l e _ s m _ below meth c n0 _ h0 0 0 (mkF m 13 #[.val (.ref o), .val (.ref u)] [(.int (0 : Int32))])
  refine Wk.ifY C (pc' := 25) d26_13 (XT.i0_eq_t (by decide)) (by decide) (by decide) ?_
  refine Wk.ald C d26_25 rfl rfl ?_
  refine Wk.isY C (wd hw 331) (Ins.of_exa U.1 (wd hw 120)) d26_26 ?_
  show Wk _ p l e _ s m _ below meth c n0 _ h0 0 0 (mkF m 29 #[.val (.ref o), .val (.ref u)] [(.int (1 : Int32))])
  refine Wk.ifN C d26_29 (XT.i0_eq_f (by decide)) ?_
  refine Wk.ald C d26_32 rfl rfl ?_
  refine Wk.ald C d26_33 rfl rfl ?_
  refine Wk.cast C (wd hw 331) (Ins.of_exa U.1 (wd hw 120)) d26_34 ?_
  show Wk _ p l e _ s m _ below meth c n0 _ h0 0 0 (mkF m 37 #[.val (.ref o), .val (.ref u)] [(.ref u), (.ref o)])
  refine Wk.callV C (x := (⟨AB, "append", "(Ljava/lang/AbstractStringBuilder;)Ljava/lang/AbstractStringBuilder;"⟩ : MethodName)) (z := (⟨AB, "append", "(Ljava/lang/AbstractStringBuilder;)Ljava/lang/AbstractStringBuilder;"⟩ : MethodName)) (K := SBN) (wd hw 332) (wd hw 333) (wd hw 335) (wd hw 334) (wd hw 121) (wd hw 336) (by decide) (fun s' hZ' => notFace_of_selects (args := #[]) (mvT hZ' (wd hw 335))) B.1 (own_aapp l Z a0 hw n0 h0 cs SC hcs u vu cu nu gu U o vo cp no g B m1 m2 m3 m4 go gv hd) (w := 0) (by decide) (by decide) pd_10 rfl (rest := []) rfl rfl (Nat.le_of_eq rfl) (by decide) (by decide) d26_37 ?_
  rintro _ h1 ⟨rfl, K1, B1⟩
  show Wk _ p l e _ s m _ below meth c n0 _ h1 0 0 (mkF m 40 #[.val (.ref o), .val (.ref u)] [(.ref o)])
  exact Wk.retV C (t := (.object AB)) rfl rfl (Or.inr (Or.inr (Or.inr (Or.inr ⟨rfl, rfl, rfl⟩)))) d26_40 (by decide) (by decide) ⟨rfl, K1, B1⟩
set_option maxRecDepth 65536 in
set_option maxHeartbeats 40000000 in
theorem own_scs2 (l : Launch) (Z : State) (a0 : Array Value) (hw : ∀ d ∈ tables_1, d.before a0 Z = true) (n0 : Nat) (h0 : Heap) (cs : Int32) (SC : Sta Z h0 ST "COMPACT_STRINGS" "Z" (.int cs)) (hcs : ¬ cs = (0 : Int32)) (u vu : Addr) (cu nu : Nat) (gu : Nat → Value) (U : Sb Z h0 u vu cu nu gu) (o vo : Addr) (cp no : Nat) (g : Nat → Value) (B : Sb Z h0 o vo cp no g) (m1 : u ≠ o) (m2 : u ≠ vo) (m3 : vu ≠ o) (m4 : vu ≠ vo) (go : n0 ≤ o) (gv : n0 ≤ vo) (hd : no + nu ≤ cp) :
    Met false l Z n0 (⟨SBN, "append", "(Ljava/lang/CharSequence;)Ljava/lang/StringBuilder;"⟩ : MethodName) jdk_67_method_9_code 2 (some (.object SBN)) ({ frames := 4, cells := 0, slots := 0, locals := 69 } : Room) #[(.ref o), (.ref u)] h0 (fun r h => r = some (.ref o) ∧ Keep h0 h [o, vo] ∧ Sb Z h o vo cp (no + nu) (cpf gu g 0 no nu)) := by
  refine Met.of (plainFor_of_name pn_2) #[.val (.ref o), .val (.ref u)] (fun m => by first | (simp [entryFrame, mkF, argsToLocals, Value.category]; done) | rfl) ?_
  intro p e s m below meth c C
  refine Wk.ald C d25_0 rfl rfl ?_
  refine Wk.ald C d25_1 rfl rfl ?_
  refine Wk.callSup C (z := (⟨AB, "append", "(Ljava/lang/CharSequence;)Ljava/lang/AbstractStringBuilder;"⟩ : MethodName)) (K := SBN) (wd hw 155) (same_self (wd hw 156) (hw _ (List.mem_of_getElem? (i := 179) rfl)) rfl (by decide)) (wd hw 156) (wd hw 136) (wd hw 121) (wd hw 158) (by decide) B.1 (own_acs2 l Z a0 hw n0 h0 cs SC hcs u vu cu nu gu U o vo cp no g B m1 m2 m3 m4 go gv hd) (w := 0) (by decide) (by decide) pd_8 rfl (rest := []) rfl rfl (Nat.le_of_eq rfl) (by decide) (by decide) d25_2 ?_
  rintro _ h1 ⟨rfl, K1, B1⟩
  show Wk _ p l e _ s m _ below meth c n0 _ h1 0 0 (mkF m 5 #[.val (.ref o), .val (.ref u)] [(.ref o)])
  refine Wk.popS C d25_5 rfl ?_
  refine Wk.ald C d25_6 rfl rfl ?_
  exact Wk.retV C (t := (.object SBN)) rfl rfl (Or.inr (Or.inr (Or.inr (Or.inr ⟨rfl, rfl, rfl⟩)))) d25_7 (by decide) (by decide) ⟨rfl, K1, B1⟩
theorem d34_0 : decode jdk_65_method_123_code 0 = .ok (.iload_n 1, 1) := by decide +kernel
theorem d34_1 : decode jdk_65_method_123_code 1 = .ok (.aload_n 0, 1) := by decide +kernel
theorem d34_2 : decode jdk_65_method_123_code 2 = .ok (.arraylength, 1) := by decide +kernel
theorem d34_3 : decode jdk_65_method_123_code 3 = .ok (.if_icmp .ne 11, 3) := by decide +kernel
theorem d34_14 : decode jdk_65_method_123_code 14 = .ok (.iload_n 1, 1) := by decide +kernel
theorem d34_15 : decode jdk_65_method_123_code 15 = .ok (.newarray .int, 2) := by decide +kernel
theorem d34_17 : decode jdk_65_method_123_code 17 = .ok (.astore_n 2, 1) := by decide +kernel
theorem d34_18 : decode jdk_65_method_123_code 18 = .ok (.aload_n 0, 1) := by decide +kernel
theorem d34_19 : decode jdk_65_method_123_code 19 = .ok (.iconst 0, 1) := by decide +kernel
theorem d34_20 : decode jdk_65_method_123_code 20 = .ok (.aload_n 2, 1) := by decide +kernel
theorem d34_21 : decode jdk_65_method_123_code 21 = .ok (.iconst 0, 1) := by decide +kernel
theorem d34_22 : decode jdk_65_method_123_code 22 = .ok (.aload_n 0, 1) := by decide +kernel
theorem d34_23 : decode jdk_65_method_123_code 23 = .ok (.arraylength, 1) := by decide +kernel
theorem d34_24 : decode jdk_65_method_123_code 24 = .ok (.iload_n 1, 1) := by decide +kernel
theorem d34_25 : decode jdk_65_method_123_code 25 = .ok (.invokestatic 304, 3) := by decide +kernel
theorem d34_28 : decode jdk_65_method_123_code 28 = .ok (.invokestatic 150, 3) := by decide +kernel
theorem d34_31 : decode jdk_65_method_123_code 31 = .ok (.aload_n 2, 1) := by decide +kernel
theorem d34_32 : decode jdk_65_method_123_code 32 = .ok (.areturn, 1) := by decide +kernel
set_option maxRecDepth 65536 in
set_option maxHeartbeats 40000000 in
theorem own_cpI (l : Launch) (Z : State) (a0 : Array Value) (hw : ∀ d ∈ tables_1, d.before a0 Z = true) (n0 : Nat) (h0 : Heap) (hsz : n0 ≤ h0.size) (x : Addr) (k0 k1 : Nat) (ff : Nat → Value) (X0 : Fa Z h0 x .int k0 ff) (XI : FI ff k0) (q1 : k0 < k1) (q2 : k1 ≤ 64) :
    Met false l Z n0 (⟨"java/util/Arrays", "copyOf", "([II)[I"⟩ : MethodName) jdk_65_method_123_code 3 (some (.array .int)) ({ frames := 1, cells := 1, slots := 64, locals := 27 } : Room) #[(.ref x), (.int (Int32.ofNat k1))] h0 (fun r h => ∃ y : Addr, r = some (.ref y) ∧ Keep h0 h [] ∧ h0.size ≤ y ∧ Exa Z h y "[I" ∧ Fa Z h y .int k1 (cpf ff (fun _ => .int (0 : Int32)) 0 0 k0)) := by
  refine Met.of (plainFor_of_name pn_3) #[.val (.ref x), .val (.int (Int32.ofNat k1)), .unset] (fun m => by first | (simp [entryFrame, mkF, argsToLocals, Value.category]; done) | rfl) ?_
  intro p e s m below meth c C
  refine Wk.ild C d34_0 rfl ?_
  refine Wk.ald C d34_1 rfl rfl ?_
  refine Wk.fLen C X0 (z := (Int32.ofNat k0)) rfl d34_2 ?_
  show Wk _ p l e _ s m _ below meth c n0 _ h0 0 0 (mkF m 3 #[.val (.ref x), .val (.int (Int32.ofNat k1)), .unset] [(.int (Int32.ofNat k0)), (.int (Int32.ofNat k1))])
  refine Wk.icY C (pc' := 14) d34_3 (XT.ii_ne_t (fun q => by have := congrArg Int32.toInt q; rw [n32 (by omega), n32 (by omega)] at this; omega)) (by decide) (by decide) ?_
  refine Wk.ild C d34_14 rfl ?_
  refine Wk.fNewP C (wd hw 205) (ty := .int) (dv := (.int (0 : Int32))) (N := k1) (ad := "[I") rfl rfl (cl32 (by omega)) (by decide) (nn32 (by omega)) (cap := 64) (by omega) (by decide) d34_15 (by decide) (by decide) ?_
  intro h1 b2 g3 E4 A5 F6
  have ne7 : x ≠ b2 := Nat.ne_of_lt (Nat.lt_of_lt_of_le X0.lt (Nat.le_of_eq g3.symm))
  have ge8 : n0 ≤ b2 := Nat.le_trans hsz (Nat.le_of_eq g3.symm)
  have gz9 : h0.size ≤ b2 := Nat.le_trans (Nat.le_refl h0.size) (Nat.le_of_eq g3.symm)
  have F10 : Fa Z h1 x .int k0 ff := X0.ext E4
  have sz11 : n0 ≤ h1.size := Nat.le_trans hsz E4.1
  have sy12 : h0.size ≤ h1.size := Nat.le_trans (Nat.le_refl h0.size) E4.1
  have K13 := (Keep.refl h0 []).ext E4
  show Wk _ p l e _ s m _ below meth c n0 _ h1 1 64 (mkF m 17 #[.val (.ref x), .val (.int (Int32.ofNat k1)), .unset] [(.ref b2)])
  refine Wk.st (g' := (mkF m 18 #[.val (.ref x), .val (.int (Int32.ofNat k1)), .val (.ref b2)] [])) (fun X t q => XS.astoreN X.here C.hx rfl (hb C.hby d34_17) rfl rfl (l' := #[.val (.ref x), .val (.int (Int32.ofNat k1)), .val (.ref b2)]) rfl q) ?_
  refine Wk.ald C d34_18 rfl rfl ?_
  refine Wk.st (g' := (mkF m 20 #[.val (.ref x), .val (.int (Int32.ofNat k1)), .val (.ref b2)] [(.int (0 : Int32)), (.ref x)])) (fun X t q => XS.iconst X.here C.hx rfl (hb C.hby d34_19) q) ?_
  refine Wk.ald C d34_20 rfl rfl ?_
  refine Wk.st (g' := (mkF m 22 #[.val (.ref x), .val (.int (Int32.ofNat k1)), .val (.ref b2)] [(.int (0 : Int32)), (.ref b2), (.int (0 : Int32)), (.ref x)])) (fun X t q => XS.iconst X.here C.hx rfl (hb C.hby d34_21) q) ?_
  refine Wk.ald C d34_22 rfl rfl ?_
  refine Wk.fLen C F10 (z := (Int32.ofNat k0)) rfl d34_23 ?_
  show Wk _ p l e _ s m _ below meth c n0 _ h1 1 64 (mkF m 24 #[.val (.ref x), .val (.int (Int32.ofNat k1)), .val (.ref b2)] [(.int (Int32.ofNat k0)), (.int (0 : Int32)), (.ref b2), (.int (0 : Int32)), (.ref x)])
  refine Wk.ild C d34_24 rfl ?_
  refine Wk.callS C (z := (⟨"java/lang/Math", "min", "(II)I"⟩ : MethodName)) (wd hw 206) (wd hw 207) (wd hw 112) (wd hw 208) (by decide) (own_min l Z a0 hw n0 h1 k0 k1 (by omega) (by omega)) (w := 4) (by decide) (by decide) pd_11 rfl (rest := [(.int (0 : Int32)), (.ref b2), (.int (0 : Int32)), (.ref x)]) rfl rfl (Nat.le_of_eq rfl) (by decide) (by decide) d34_25 ?_
  rintro _ _ ⟨rfl, rfl⟩
  show Wk _ p l e _ s m _ below meth c n0 _ h1 1 64 (mkF m 28 #[.val (.ref x), .val (.int (Int32.ofNat k1)), .val (.ref b2)] [(.int (Int32.ofNat (min k0 k1))), (.int (0 : Int32)), (.ref b2), (.int (0 : Int32)), (.ref x)])
  refine Wk.acopy C (wd hw 209) (wd hw 200) (wd hw 198) (wd hw 199) F10 F6 rfl (sp := 0) (dp := 0) (nn := (min k0 k1)) (by omega) (by omega) XI ge8 rfl d34_28 (by decide) (w := 0) (Nat.le_of_eq rfl) (by decide) ?_
  intro h14 K15 F16
  have F17 : Fa Z h14 x .int k0 ff := F10.keep K15 (nmS ne7 nm0)
  have F18 : Exa Z h14 b2 "[I" := A5.keep K15
  have sz19 : n0 ≤ h14.size := Nat.le_trans sz11 K15.1
  have sy20 : h0.size ≤ h14.size := Nat.le_trans sy12 K15.1
  have K21 := K13.trans K15 (nvS (Or.inr gz9) nv0)
  show Wk _ p l e _ s m _ below meth c n0 _ h14 1 64 (mkF m 31 #[.val (.ref x), .val (.int (Int32.ofNat k1)), .val (.ref b2)] [])
  refine Wk.ald C d34_31 rfl rfl ?_
  exact Wk.retV C (t := (.array .int)) rfl rfl (Or.inr (Or.inr (Or.inr (Or.inr ⟨rfl, rfl, rfl⟩)))) d34_32 (by decide) (by decide) ⟨b2, rfl, K21, gz9, F18, F16.congr (fun i hi => by rw [Nat.min_eq_left (by omega)])⟩
theorem d43_0 : decode jdk_65_method_131_code 0 = .ok (.iload_n 1, 1) := by decide +kernel
theorem d43_1 : decode jdk_65_method_131_code 1 = .ok (.iload_n 0, 1) := by decide +kernel
theorem d43_2 : decode jdk_65_method_131_code 2 = .ok (.if_icmp .ge 35, 3) := by decide +kernel
theorem d43_37 : decode jdk_65_method_131_code 37 = .ok (.return_, 1) := by decide +kernel
set_option maxRecDepth 65536 in
set_option maxHeartbeats 40000000 in
theorem own_chk (l : Launch) (Z : State) (a0 : Array Value) (hw : ∀ d ∈ tables_1, d.before a0 Z = true) (n0 : Nat) (h0 : Heap) (d d1 : Nat) (q1 : d ≤ d1) (q2 : d1 < 1000) :
    Met false l Z n0 (⟨"java/util/Arrays", "checkLength", "(II)V"⟩ : MethodName) jdk_65_method_131_code 2 none ({ frames := 0, cells := 0, slots := 0, locals := 0 } : Room) #[(.int (Int32.ofNat d)), (.int (Int32.ofNat d1))] h0 (fun r h => r = none ∧ h0 = h) := by
  refine Met.of (plainFor_of_name pn_3) #[.val (.int (Int32.ofNat d)), .val (.int (Int32.ofNat d1))] (fun m => by first | (simp [entryFrame, mkF, argsToLocals, Value.category]; done) | rfl) ?_
  intro p e s m below meth c C
  refine Wk.ild C d43_0 rfl ?_
  refine Wk.ild C d43_1 rfl ?_
  refine Wk.icY C (pc' := 37) d43_2 (XT.ii_ge_t (mt (lt32 (by omega) (by omega)).mp (by omega))) (by decide) (by decide) ?_
  exact Wk.retN0 C rfl d43_37 (by decide) (by decide) ⟨rfl, rfl⟩
theorem d42_0 : decode jdk_65_method_133_code 0 = .ok (.iload_n 1, 1) := by decide +kernel
theorem d42_1 : decode jdk_65_method_133_code 1 = .ok (.iload_n 2, 1) := by decide +kernel
theorem d42_2 : decode jdk_65_method_133_code 2 = .ok (.invokestatic 343, 3) := by decide +kernel
theorem d42_5 : decode jdk_65_method_133_code 5 = .ok (.iload_n 2, 1) := by decide +kernel
theorem d42_6 : decode jdk_65_method_133_code 6 = .ok (.iload_n 1, 1) := by decide +kernel
theorem d42_7 : decode jdk_65_method_133_code 7 = .ok (.isub, 1) := by decide +kernel
theorem d42_8 : decode jdk_65_method_133_code 8 = .ok (.istore_n 3, 1) := by decide +kernel
theorem d42_9 : decode jdk_65_method_133_code 9 = .ok (.iload_n 3, 1) := by decide +kernel
theorem d42_10 : decode jdk_65_method_133_code 10 = .ok (.newarray .byte, 2) := by decide +kernel
theorem d42_12 : decode jdk_65_method_133_code 12 = .ok (.astore 4, 2) := by decide +kernel
theorem d42_14 : decode jdk_65_method_133_code 14 = .ok (.aload_n 0, 1) := by decide +kernel
theorem d42_15 : decode jdk_65_method_133_code 15 = .ok (.iload_n 1, 1) := by decide +kernel
theorem d42_16 : decode jdk_65_method_133_code 16 = .ok (.aload 4, 2) := by decide +kernel
theorem d42_18 : decode jdk_65_method_133_code 18 = .ok (.iconst 0, 1) := by decide +kernel
theorem d42_19 : decode jdk_65_method_133_code 19 = .ok (.aload_n 0, 1) := by decide +kernel
theorem d42_20 : decode jdk_65_method_133_code 20 = .ok (.arraylength, 1) := by decide +kernel
theorem d42_21 : decode jdk_65_method_133_code 21 = .ok (.iload_n 1, 1) := by decide +kernel
theorem d42_22 : decode jdk_65_method_133_code 22 = .ok (.isub, 1) := by decide +kernel
theorem d42_23 : decode jdk_65_method_133_code 23 = .ok (.iload_n 3, 1) := by decide +kernel
theorem d42_24 : decode jdk_65_method_133_code 24 = .ok (.invokestatic 304, 3) := by decide +kernel
theorem d42_27 : decode jdk_65_method_133_code 27 = .ok (.invokestatic 150, 3) := by decide +kernel
theorem d42_30 : decode jdk_65_method_133_code 30 = .ok (.aload 4, 2) := by decide +kernel
theorem d42_32 : decode jdk_65_method_133_code 32 = .ok (.areturn, 1) := by decide +kernel
set_option maxRecDepth 65536 in
set_option maxHeartbeats 40000000 in
theorem own_crb (l : Launch) (Z : State) (a0 : Array Value) (hw : ∀ d ∈ tables_1, d.before a0 Z = true) (n0 : Nat) (h0 : Heap) (hsz : n0 ≤ h0.size) (x : Addr) (k0 d d1 : Nat) (f : Nat → Value) (X0 : Fa Z h0 x .byte k0 f) (X1 : Exa Z h0 x "[B") (XF : FT f k0) (q1 : d ≤ d1) (q2 : d1 ≤ k0) (q3 : k0 < 1000) (q4 : d1 - d ≤ 64) :
    Met false l Z n0 (⟨"java/util/Arrays", "copyOfRangeByte", "([BII)[B"⟩ : MethodName) jdk_65_method_133_code 5 (some (.array .byte)) ({ frames := 1, cells := 1, slots := 64, locals := 27 } : Room) #[(.ref x), (.int (Int32.ofNat d)), (.int (Int32.ofNat d1))] h0 (fun r h => ∃ y : Addr, r = some (.ref y) ∧ Keep h0 h [] ∧ h0.size ≤ y ∧ Exa Z h y "[B" ∧ Fa Z h y .byte (d1 - d) (fun i => f (d + i))) := by
  refine Met.of (plainFor_of_name pn_3) #[.val (.ref x), .val (.int (Int32.ofNat d)), .val (.int (Int32.ofNat d1)), .unset, .unset] (fun m => by first | (simp [entryFrame, mkF, argsToLocals, Value.category]; done) | rfl) ?_
  intro p e s m below meth c C
  refine Wk.ild C d42_0 rfl ?_
  refine Wk.ild C d42_1 rfl ?_
  refine Wk.callS C (z := (⟨"java/util/Arrays", "checkLength", "(II)V"⟩ : MethodName)) (wd hw 242) (wd hw 243) (wd hw 203) (wd hw 244) (by decide) (own_chk l Z a0 hw n0 h0 d d1 q1 (by omega)) (w := 0) (by decide) (by decide) pd_12 rfl (rest := []) rfl rfl (Nat.le_of_eq rfl) (by decide) (by decide) d42_2 ?_
  rintro _ _ ⟨rfl, rfl⟩
  show Wk _ p l e _ s m _ below meth c n0 _ h0 0 0 (mkF m 5 #[.val (.ref x), .val (.int (Int32.ofNat d)), .val (.int (Int32.ofNat d1)), .unset, .unset] [])
  refine Wk.ild C d42_5 rfl ?_
  refine Wk.ild C d42_6 rfl ?_
  refine Wk.st (g' := (mkF m 8 #[.val (.ref x), .val (.int (Int32.ofNat d)), .val (.int (Int32.ofNat d1)), .unset, .unset] [(.int ((Int32.ofNat d1) - (Int32.ofNat d)))])) (fun X t q => XS.isub X.here C.hx rfl (hb C.hby d42_7) rfl q) ?_
  rw [show ((Int32.ofNat d1) - (Int32.ofNat d)) = (Int32.ofNat (d1 - d)) from sub32 q1 (by omega)]
  show Wk _ p l e _ s m _ below meth c n0 _ h0 0 0 (mkF m 8 #[.val (.ref x), .val (.int (Int32.ofNat d)), .val (.int (Int32.ofNat d1)), .unset, .unset] [(.int (Int32.ofNat (d1 - d)))])
  refine Wk.st (g' := (mkF m 9 #[.val (.ref x), .val (.int (Int32.ofNat d)), .val (.int (Int32.ofNat d1)), .val (.int (Int32.ofNat (d1 - d))), .unset] [])) (fun X t q => XS.istoreN X.here C.hx rfl (hb C.hby d42_8) rfl (l' := #[.val (.ref x), .val (.int (Int32.ofNat d)), .val (.int (Int32.ofNat d1)), .val (.int (Int32.ofNat (d1 - d))), .unset]) rfl q) ?_
  refine Wk.ild C d42_9 rfl ?_
  refine Wk.fNewP C (wd hw 7) (ty := .byte) (dv := (.int (0 : Int32))) (N := (d1 - d)) (ad := "[B") rfl rfl (cl32 (by omega)) (by decide) (nn32 (by omega)) (cap := 64) (by omega) (by decide) d42_10 (by decide) (by decide) ?_
  intro h1 b2 g3 E4 A5 F6
  have ne7 : x ≠ b2 := Nat.ne_of_lt (Nat.lt_of_lt_of_le X0.lt (Nat.le_of_eq g3.symm))
  have ge8 : n0 ≤ b2 := Nat.le_trans hsz (Nat.le_of_eq g3.symm)
  have gz9 : h0.size ≤ b2 := Nat.le_trans (Nat.le_refl h0.size) (Nat.le_of_eq g3.symm)
  have F10 : Fa Z h1 x .byte k0 f := X0.ext E4
  have F11 : Exa Z h1 x "[B" := X1.ext E4
  have sz12 : n0 ≤ h1.size := Nat.le_trans hsz E4.1
  have sy13 : h0.size ≤ h1.size := Nat.le_trans (Nat.le_refl h0.size) E4.1
  have K14 := (Keep.refl h0 []).ext E4
  show Wk _ p l e _ s m _ below meth c n0 _ h1 1 64 (mkF m 12 #[.val (.ref x), .val (.int (Int32.ofNat d)), .val (.int (Int32.ofNat d1)), .val (.int (Int32.ofNat (d1 - d))), .unset] [(.ref b2)])
  refine Wk.st (g' := (mkF m 14 #[.val (.ref x), .val (.int (Int32.ofNat d)), .val (.int (Int32.ofNat d1)), .val (.int (Int32.ofNat (d1 - d))), .val (.ref b2)] [])) (fun X t q => XS.astore X.here C.hx rfl (hb C.hby d42_12) rfl rfl (l' := #[.val (.ref x), .val (.int (Int32.ofNat d)), .val (.int (Int32.ofNat d1)), .val (.int (Int32.ofNat (d1 - d))), .val (.ref b2)]) rfl q) ?_
  refine Wk.ald C d42_14 rfl rfl ?_
  refine Wk.ild C d42_15 rfl ?_
  refine Wk.aldW C d42_16 rfl rfl ?_
  refine Wk.st (g' := (mkF m 19 #[.val (.ref x), .val (.int (Int32.ofNat d)), .val (.int (Int32.ofNat d1)), .val (.int (Int32.ofNat (d1 - d))), .val (.ref b2)] [(.int (0 : Int32)), (.ref b2), (.int (Int32.ofNat d)), (.ref x)])) (fun X t q => XS.iconst X.here C.hx rfl (hb C.hby d42_18) q) ?_
  refine Wk.ald C d42_19 rfl rfl ?_
  refine Wk.fLen C F10 (z := (Int32.ofNat k0)) rfl d42_20 ?_
  show Wk _ p l e _ s m _ below meth c n0 _ h1 1 64 (mkF m 21 #[.val (.ref x), .val (.int (Int32.ofNat d)), .val (.int (Int32.ofNat d1)), .val (.int (Int32.ofNat (d1 - d))), .val (.ref b2)] [(.int (Int32.ofNat k0)), (.int (0 : Int32)), (.ref b2), (.int (Int32.ofNat d)), (.ref x)])
  refine Wk.ild C d42_21 rfl ?_
  refine Wk.st (g' := (mkF m 23 #[.val (.ref x), .val (.int (Int32.ofNat d)), .val (.int (Int32.ofNat d1)), .val (.int (Int32.ofNat (d1 - d))), .val (.ref b2)] [(.int ((Int32.ofNat k0) - (Int32.ofNat d))), (.int (0 : Int32)), (.ref b2), (.int (Int32.ofNat d)), (.ref x)])) (fun X t q => XS.isub X.here C.hx rfl (hb C.hby d42_22) rfl q) ?_
  rw [show ((Int32.ofNat k0) - (Int32.ofNat d)) = (Int32.ofNat (k0 - d)) from sub32 (by omega) (by omega)]
  show Wk _ p l e _ s m _ below meth c n0 _ h1 1 64 (mkF m 23 #[.val (.ref x), .val (.int (Int32.ofNat d)), .val (.int (Int32.ofNat d1)), .val (.int (Int32.ofNat (d1 - d))), .val (.ref b2)] [(.int (Int32.ofNat (k0 - d))), (.int (0 : Int32)), (.ref b2), (.int (Int32.ofNat d)), (.ref x)])
  refine Wk.ild C d42_23 rfl ?_
  refine Wk.callS C (z := (⟨"java/lang/Math", "min", "(II)I"⟩ : MethodName)) (wd hw 206) (wd hw 207) (wd hw 112) (wd hw 208) (by decide) (own_min l Z a0 hw n0 h1 (k0 - d) (d1 - d) (by omega) (by omega)) (w := 4) (by decide) (by decide) pd_11 rfl (rest := [(.int (0 : Int32)), (.ref b2), (.int (Int32.ofNat d)), (.ref x)]) rfl rfl (Nat.le_of_eq rfl) (by decide) (by decide) d42_24 ?_
  rintro _ _ ⟨rfl, rfl⟩
  show Wk _ p l e _ s m _ below meth c n0 _ h1 1 64 (mkF m 27 #[.val (.ref x), .val (.int (Int32.ofNat d)), .val (.int (Int32.ofNat d1)), .val (.int (Int32.ofNat (d1 - d))), .val (.ref b2)] [(.int (Int32.ofNat (min (k0 - d) (d1 - d)))), (.int (0 : Int32)), (.ref b2), (.int (Int32.ofNat d)), (.ref x)])
  refine Wk.acopy C (wd hw 209) (wd hw 200) (wd hw 198) (wd hw 199) F10 F6 rfl (sp := d) (dp := 0) (nn := (min (k0 - d) (d1 - d))) (by omega) (by omega) XF ge8 rfl d42_27 (by decide) (w := 0) (Nat.le_of_eq rfl) (by decide) ?_
  intro h15 K16 F17
  have F18 : Fa Z h15 x .byte k0 f := F10.keep K16 (nmS ne7 nm0)
  have F19 : Exa Z h15 x "[B" := F11.keep K16
  have F20 : Exa Z h15 b2 "[B" := A5.keep K16
  have sz21 : n0 ≤ h15.size := Nat.le_trans sz12 K16.1
  have sy22 : h0.size ≤ h15.size := Nat.le_trans sy13 K16.1
  have K23 := K14.trans K16 (nvS (Or.inr gz9) nv0)
  show Wk _ p l e _ s m _ below meth c n0 _ h15 1 64 (mkF m 30 #[.val (.ref x), .val (.int (Int32.ofNat d)), .val (.int (Int32.ofNat d1)), .val (.int (Int32.ofNat (d1 - d))), .val (.ref b2)] [])
  refine Wk.aldW C d42_30 rfl rfl ?_
  exact Wk.retV C (t := (.array .byte)) rfl rfl (Or.inr (Or.inr (Or.inr (Or.inr ⟨rfl, rfl, rfl⟩)))) d42_32 (by decide) (by decide) ⟨b2, rfl, K23, gz9, F20, F17.congr (fun i hi => by simp only [cpf]; rw [if_pos (by omega), Nat.sub_zero])⟩
theorem d41_0 : decode jdk_65_method_132_code 0 = .ok (.iload_n 1, 1) := by decide +kernel
theorem d41_1 : decode jdk_65_method_132_code 1 = .ok (.ifCond .ne 9, 3) := by decide +kernel
theorem d41_4 : decode jdk_65_method_132_code 4 = .ok (.iload_n 2, 1) := by decide +kernel
theorem d41_5 : decode jdk_65_method_132_code 5 = .ok (.aload_n 0, 1) := by decide +kernel
theorem d41_6 : decode jdk_65_method_132_code 6 = .ok (.arraylength, 1) := by decide +kernel
theorem d41_7 : decode jdk_65_method_132_code 7 = .ok (.if_icmp .eq 10, 3) := by decide +kernel
theorem d41_10 : decode jdk_65_method_132_code 10 = .ok (.aload_n 0, 1) := by decide +kernel
theorem d41_11 : decode jdk_65_method_132_code 11 = .ok (.iload_n 1, 1) := by decide +kernel
theorem d41_12 : decode jdk_65_method_132_code 12 = .ok (.iload_n 2, 1) := by decide +kernel
theorem d41_13 : decode jdk_65_method_132_code 13 = .ok (.invokestatic 339, 3) := by decide +kernel
theorem d41_16 : decode jdk_65_method_132_code 16 = .ok (.areturn, 1) := by decide +kernel
theorem d41_17 : decode jdk_65_method_132_code 17 = .ok (.aload_n 0, 1) := by decide +kernel
theorem d41_18 : decode jdk_65_method_132_code 18 = .ok (.invokevirtual 310, 3) := by decide +kernel
theorem d41_21 : decode jdk_65_method_132_code 21 = .ok (.checkcast 311, 3) := by decide +kernel
theorem d41_24 : decode jdk_65_method_132_code 24 = .ok (.areturn, 1) := by decide +kernel
set_option maxRecDepth 65536 in
set_option maxHeartbeats 40000000 in
theorem own_cr (l : Launch) (Z : State) (a0 : Array Value) (hw : ∀ d ∈ tables_1, d.before a0 Z = true) (n0 : Nat) (h0 : Heap) (hsz : n0 ≤ h0.size) (x : Addr) (k0 d d1 : Nat) (f : Nat → Value) (X0 : Fa Z h0 x .byte k0 f) (X1 : Exa Z h0 x "[B") (XF : FT f k0) (q1 : d ≤ d1) (q2 : d1 ≤ k0) (q3 : k0 < 1000) (q4 : d1 - d ≤ 64) :
    Met false l Z n0 (⟨"java/util/Arrays", "copyOfRange", "([BII)[B"⟩ : MethodName) jdk_65_method_132_code 3 (some (.array .byte)) ({ frames := 2, cells := 1, slots := 64, locals := 43 } : Room) #[(.ref x), (.int (Int32.ofNat d)), (.int (Int32.ofNat d1))] h0 (fun r h => ∃ y : Addr, r = some (.ref y) ∧ Keep h0 h [] ∧ h0.size ≤ y ∧ Exa Z h y "[B" ∧ Fa Z h y .byte (d1 - d) (fun i => f (d + i))) := by
  refine Met.of (plainFor_of_name pn_3) #[.val (.ref x), .val (.int (Int32.ofNat d)), .val (.int (Int32.ofNat d1))] (fun m => by first | (simp [entryFrame, mkF, argsToLocals, Value.category]; done) | rfl) ?_
  intro p e s m below meth c C
  refine Wk.ild C d41_0 rfl ?_
  by_cases hb1 : (Int32.ofNat d) = (0 : Int32)
  · skip
    refine Wk.ifN C d41_1 (XT.i0_ne_f hb1) ?_
    refine Wk.ild C d41_4 rfl ?_
    refine Wk.ald C d41_5 rfl rfl ?_
    refine Wk.fLen C X0 (z := (Int32.ofNat k0)) rfl d41_6 ?_
    show Wk _ p l e _ s m _ below meth c n0 _ h0 0 0 (mkF m 7 #[.val (.ref x), .val (.int (Int32.ofNat d)), .val (.int (Int32.ofNat d1))] [(.int (Int32.ofNat k0)), (.int (Int32.ofNat d1))])
    by_cases hb2 : (Int32.ofNat d1) = (Int32.ofNat k0)
    · skip
      refine Wk.icY C (pc' := 17) d41_7 (XT.ii_eq_t hb2) (by decide) (by decide) ?_
      have z1 : d = 0 := is0 (by omega) hb1
      have z2 : d1 = k0 := inj32 (by omega) (by omega) hb2
      refine Wk.ald C d41_17 rfl rfl ?_
      refine Wk.clone C (ad := "[B") (wd hw 320) (wd hw 321) (wd hw 325) (wd hw 323) (wd hw 324) (wd hw 326) X0 X1 XF rfl d41_18 (by decide) (w := 0) (cap := 64) (Nat.le_of_eq rfl) (by decide) (by omega) (by decide) (by decide) ?_
      intro h3 b4 g5 E6 A7 F8
      have ne9 : x ≠ b4 := Nat.ne_of_lt (Nat.lt_of_lt_of_le X0.lt (Nat.le_of_eq g5.symm))
      have ge10 : n0 ≤ b4 := Nat.le_trans hsz (Nat.le_of_eq g5.symm)
      have gz11 : h0.size ≤ b4 := Nat.le_trans (Nat.le_refl h0.size) (Nat.le_of_eq g5.symm)
      have F12 : Fa Z h3 x .byte k0 f := X0.ext E6
      have F13 : Exa Z h3 x "[B" := X1.ext E6
      have sz14 : n0 ≤ h3.size := Nat.le_trans hsz E6.1
      have sy15 : h0.size ≤ h3.size := Nat.le_trans (Nat.le_refl h0.size) E6.1
      have K16 := (Keep.refl h0 []).ext E6
      show Wk _ p l e _ s m _ below meth c n0 _ h3 1 64 (mkF m 21 #[.val (.ref x), .val (.int (Int32.ofNat d)), .val (.int (Int32.ofNat d1))] [(.ref b4)])
      refine Wk.cast C (wd hw 327) (Ins.self A7) d41_21 ?_
      show Wk _ p l e _ s m _ below meth c n0 _ h3 1 64 (mkF m 24 #[.val (.ref x), .val (.int (Int32.ofNat d)), .val (.int (Int32.ofNat d1))] [(.ref b4)])
      exact Wk.retV C (t := (.array .byte)) rfl rfl (Or.inr (Or.inr (Or.inr (Or.inr ⟨rfl, rfl, rfl⟩)))) d41_24 (by decide) (by decide) ⟨b4, rfl, K16, gz11, A7, clone_fa z1 z2 F8⟩
    · skip
      refine Wk.icN C d41_7 (XT.ii_eq_f hb2) ?_
      refine Wk.ald C d41_10 rfl rfl ?_
      refine Wk.ild C d41_11 rfl ?_
      refine Wk.ild C d41_12 rfl ?_
      refine Wk.callS C (z := (⟨"java/util/Arrays", "copyOfRangeByte", "([BII)[B"⟩ : MethodName)) (wd hw 239) (wd hw 240) (wd hw 203) (wd hw 241) (by decide) (own_crb l Z a0 hw n0 h0 hsz x k0 d d1 f X0 X1 XF q1 q2 q3 q4) (w := 0) (by decide) (by decide) pd_13 rfl (rest := []) rfl rfl (Nat.le_of_eq rfl) (by decide) (by decide) d41_13 ?_
      rintro _ h1 ⟨y, rfl, K1, g1, E1, F1⟩
      show Wk _ p l e _ s m _ below meth c n0 _ h1 1 64 (mkF m 16 #[.val (.ref x), .val (.int (Int32.ofNat d)), .val (.int (Int32.ofNat d1))] [(.ref y)])
      exact Wk.retV C (t := (.array .byte)) rfl rfl (Or.inr (Or.inr (Or.inr (Or.inr ⟨rfl, rfl, rfl⟩)))) d41_16 (by decide) (by decide) ⟨y, rfl, K1, g1, E1, F1⟩
  · skip
    refine Wk.ifY C (pc' := 10) d41_1 (XT.i0_ne_t hb1) (by decide) (by decide) ?_
    refine Wk.ald C d41_10 rfl rfl ?_
    refine Wk.ild C d41_11 rfl ?_
    refine Wk.ild C d41_12 rfl ?_
    refine Wk.callS C (z := (⟨"java/util/Arrays", "copyOfRangeByte", "([BII)[B"⟩ : MethodName)) (wd hw 239) (wd hw 240) (wd hw 203) (wd hw 241) (by decide) (own_crb l Z a0 hw n0 h0 hsz x k0 d d1 f X0 X1 XF q1 q2 q3 q4) (w := 0) (by decide) (by decide) pd_13 rfl (rest := []) rfl rfl (Nat.le_of_eq rfl) (by decide) (by decide) d41_13 ?_
    rintro _ h1 ⟨y, rfl, K1, g1, E1, F1⟩
    show Wk _ p l e _ s m _ below meth c n0 _ h1 1 64 (mkF m 16 #[.val (.ref x), .val (.int (Int32.ofNat d)), .val (.int (Int32.ofNat d1))] [(.ref y)])
    exact Wk.retV C (t := (.array .byte)) rfl rfl (Or.inr (Or.inr (Or.inr (Or.inr ⟨rfl, rfl, rfl⟩)))) d41_16 (by decide) (by decide) ⟨y, rfl, K1, g1, E1, F1⟩
theorem d39_0 : decode jdk_68_method_64_code 0 = .ok (.aload_n 0, 1) := by decide +kernel
theorem d39_1 : decode jdk_68_method_64_code 1 = .ok (.getfield 15, 3) := by decide +kernel
theorem d39_4 : decode jdk_68_method_64_code 4 = .ok (.areturn, 1) := by decide +kernel
set_option maxRecDepth 65536 in
set_option maxHeartbeats 40000000 in
theorem own_gval (l : Launch) (Z : State) (a0 : Array Value) (hw : ∀ d ∈ tables_1, d.before a0 Z = true) (n0 : Nat) (h0 : Heap) (o vo : Addr) (cp no : Nat) (g : Nat → Value) (B : Sb Z h0 o vo cp no g) :
    Met false l Z n0 (⟨AB, "getValue", "()[B"⟩ : MethodName) jdk_68_method_64_code 1 (some (.array .byte)) ({ frames := 0, cells := 0, slots := 0, locals := 0 } : Room) #[(.ref o)] h0 (fun r h => r = some (.ref vo) ∧ h0 = h) := by
  refine Met.of (plainFor_of_name pn_1) #[.val (.ref o)] (fun m => by first | (simp [entryFrame, mkF, argsToLocals, Value.category]; done) | rfl) ?_
  intro p e s m below meth c C
  refine Wk.ald C d39_0 rfl rfl ?_
  refine Wk.getF C (wd hw 125) Via.refl B.2.1 d39_1 ?_
  show Wk _ p l e _ s m _ below meth c n0 _ h0 0 0 (mkF m 4 #[.val (.ref o)] [(.ref vo)])
  exact Wk.retV C (t := (.array .byte)) rfl rfl (Or.inr (Or.inr (Or.inr (Or.inr ⟨rfl, rfl, rfl⟩)))) d39_4 (by decide) (by decide) ⟨rfl, rfl⟩
theorem d40_0 : decode jdk_68_method_68_code 0 = .ok (.getstatic 18, 3) := by decide +kernel
theorem d40_3 : decode jdk_68_method_68_code 3 = .ok (.ifCond .eq 14, 3) := by decide +kernel
theorem d40_6 : decode jdk_68_method_68_code 6 = .ok (.aload_n 0, 1) := by decide +kernel
theorem d40_7 : decode jdk_68_method_68_code 7 = .ok (.getfield 22, 3) := by decide +kernel
theorem d40_10 : decode jdk_68_method_68_code 10 = .ok (.ifCond .ne 7, 3) := by decide +kernel
theorem d40_13 : decode jdk_68_method_68_code 13 = .ok (.iconst 1, 1) := by decide +kernel
theorem d40_14 : decode jdk_68_method_68_code 14 = .ok (.goto 4, 3) := by decide +kernel
theorem d40_18 : decode jdk_68_method_68_code 18 = .ok (.ireturn, 1) := by decide +kernel
set_option maxRecDepth 65536 in
set_option maxHeartbeats 40000000 in
theorem own_aisL (l : Launch) (Z : State) (a0 : Array Value) (hw : ∀ d ∈ tables_1, d.before a0 Z = true) (n0 : Nat) (h0 : Heap) (cs : Int32) (SC : Sta Z h0 ST "COMPACT_STRINGS" "Z" (.int cs)) (hcs : ¬ cs = (0 : Int32)) (o vo : Addr) (cp no : Nat) (g : Nat → Value) (B : Sb Z h0 o vo cp no g) :
    Met false l Z n0 (⟨AB, "isLatin1", "()Z"⟩ : MethodName) jdk_68_method_68_code 1 (some .boolean) ({ frames := 0, cells := 0, slots := 0, locals := 0 } : Room) #[(.ref o)] h0 (fun r h => r = some (.int (1 : Int32)) ∧ h0 = h) := by
  refine Met.of (plainFor_of_name pn_1) #[.val (.ref o)] (fun m => by first | (simp [entryFrame, mkF, argsToLocals, Value.category]; done) | rfl) ?_
  intro p e s m below meth c C
  refine Wk.getS C (wd hw 124) SC d40_0 ?_
  show Wk _ p l e _ s m _ below meth c n0 _ h0 0 0 (mkF m 3 #[.val (.ref o)] [(.int cs)])
  refine Wk.ifN C d40_3 (XT.i0_eq_f hcs) ?_
  refine Wk.ald C d40_6 rfl rfl ?_
  refine Wk.getF C (wd hw 127) Via.refl B.2.2.1 d40_7 ?_
  show Wk _ p l e _ s m _ below meth c n0 _ h0 0 0 (mkF m 10 #[.val (.ref o)] [(.int (0 : Int32))])
  refine Wk.ifN C d40_10 (XT.i0_ne_f (by decide)) ?_
  refine Wk.st (g' := (mkF m 14 #[.val (.ref o)] [(.int (1 : Int32))])) (fun X t q => XS.iconst X.here C.hx rfl (hb C.hby d40_13) q) ?_
  refine Wk.gto C (pc' := 18) d40_14 (by decide) (by decide) ?_
  exact Wk.retV C (t := .boolean) rfl rfl (Or.inl ⟨rfl, by simp, _, rfl⟩) d40_18 (by decide) (by decide) ⟨rfl, rfl⟩
theorem d38_0 : decode jdk_42_method_150_code 0 = .ok (.aload_n 0, 1) := by decide +kernel
theorem d38_1 : decode jdk_42_method_150_code 1 = .ok (.invokespecial 1, 3) := by decide +kernel
theorem d38_4 : decode jdk_42_method_150_code 4 = .ok (.aload_n 1, 1) := by decide +kernel
theorem d38_5 : decode jdk_42_method_150_code 5 = .ok (.invokevirtual 552, 3) := by decide +kernel
theorem d38_8 : decode jdk_42_method_150_code 8 = .ok (.astore_n 3, 1) := by decide +kernel
theorem d38_9 : decode jdk_42_method_150_code 9 = .ok (.aload_n 1, 1) := by decide +kernel
theorem d38_10 : decode jdk_42_method_150_code 10 = .ok (.invokevirtual 549, 3) := by decide +kernel
theorem d38_13 : decode jdk_42_method_150_code 13 = .ok (.istore 4, 2) := by decide +kernel
theorem d38_15 : decode jdk_42_method_150_code 15 = .ok (.aload_n 1, 1) := by decide +kernel
theorem d38_16 : decode jdk_42_method_150_code 16 = .ok (.invokevirtual 1047, 3) := by decide +kernel
theorem d38_19 : decode jdk_42_method_150_code 19 = .ok (.ifCond .eq 22, 3) := by decide +kernel
theorem d38_22 : decode jdk_42_method_150_code 22 = .ok (.aload_n 0, 1) := by decide +kernel
theorem d38_23 : decode jdk_42_method_150_code 23 = .ok (.iconst 0, 1) := by decide +kernel
theorem d38_24 : decode jdk_42_method_150_code 24 = .ok (.putfield 15, 3) := by decide +kernel
theorem d38_27 : decode jdk_42_method_150_code 27 = .ok (.aload_n 0, 1) := by decide +kernel
theorem d38_28 : decode jdk_42_method_150_code 28 = .ok (.aload_n 3, 1) := by decide +kernel
theorem d38_29 : decode jdk_42_method_150_code 29 = .ok (.iconst 0, 1) := by decide +kernel
theorem d38_30 : decode jdk_42_method_150_code 30 = .ok (.iload 4, 2) := by decide +kernel
theorem d38_32 : decode jdk_42_method_150_code 32 = .ok (.invokestatic 54, 3) := by decide +kernel
theorem d38_35 : decode jdk_42_method_150_code 35 = .ok (.putfield 9, 3) := by decide +kernel
theorem d38_38 : decode jdk_42_method_150_code 38 = .ok (.goto 59, 3) := by decide +kernel
theorem d38_97 : decode jdk_42_method_150_code 97 = .ok (.return_, 1) := by decide +kernel
set_option maxRecDepth 65536 in
set_option maxHeartbeats 40000000 in
theorem own_sti2 (l : Launch) (Z : State) (a0 : Array Value) (hw : ∀ d ∈ tables_1, d.before a0 Z = true) (n0 : Nat) (h0 : Heap) (cs : Int32) (SC : Sta Z h0 ST "COMPACT_STRINGS" "Z" (.int cs)) (hcs : ¬ cs = (0 : Int32)) (o vo : Addr) (cp no : Nat) (g : Nat → Value) (B : Sb Z h0 o vo cp no g) (hsz : n0 ≤ h0.size) (y : Addr) (gy : n0 ≤ y) (Y0 : Exa Z h0 y ST) (Y1 : Fld Z h0 y ST "value" "[B" .null) (Y2 : Fld Z h0 y ST "coder" "B" (.int (0 : Int32))) (y1 : o ≠ y) (y2 : vo ≠ y) (hno : no ≤ 64) :
    Met false l Z n0 (⟨ST, "<init>", "(Ljava/lang/AbstractStringBuilder;Ljava/lang/Void;)V"⟩ : MethodName) jdk_42_method_150_code 5 none ({ frames := 3, cells := 1, slots := 64, locals := 58 } : Room) #[(.ref y), (.ref o), .null] h0 (fun r h => ∃ vy : Addr, r = none ∧ Keep h0 h [y] ∧ h0.size ≤ vy ∧ Str Z h y vy no g) := by
  refine Met.of (plainFor_of_name pn_0) #[.val (.ref y), .val (.ref o), .val .null, .unset, .unset] (fun m => by first | (simp [entryFrame, mkF, argsToLocals, Value.category]; done) | rfl) ?_
  intro p e s m below meth c C
  refine Wk.ald C d38_0 rfl rfl ?_
  refine Wk.initO C (wd hw 65) (wd hw 19) (wd hw 20) (w := 0) rfl d38_1 (by decide) (Nat.le_of_eq rfl) (by decide) ?_
  show Wk _ p l e _ s m _ below meth c n0 _ h0 0 0 (mkF m 4 #[.val (.ref y), .val (.ref o), .val .null, .unset, .unset] [])
  refine Wk.ald C d38_4 rfl rfl ?_
  refine Wk.callV C (x := (⟨AB, "getValue", "()[B"⟩ : MethodName)) (z := (⟨AB, "getValue", "()[B"⟩ : MethodName)) (K := SBN) (wd hw 224) (wd hw 225) (wd hw 227) (wd hw 226) (wd hw 121) (wd hw 228) (by decide) (fun s' hZ' => notFace_of_selects (args := #[]) (mvT hZ' (wd hw 227))) B.1 (own_gval l Z a0 hw n0 h0 o vo cp no g B) (w := 0) (by decide) (by decide) pd_14 rfl (rest := []) rfl rfl (Nat.le_of_eq rfl) (by decide) (by decide) d38_5 ?_
  rintro _ _ ⟨rfl, rfl⟩
  show Wk _ p l e _ s m _ below meth c n0 _ h0 0 0 (mkF m 8 #[.val (.ref y), .val (.ref o), .val .null, .unset, .unset] [(.ref vo)])
  refine Wk.st (g' := (mkF m 9 #[.val (.ref y), .val (.ref o), .val .null, .val (.ref vo), .unset] [])) (fun X t q => XS.astoreN X.here C.hx rfl (hb C.hby d38_8) rfl rfl (l' := #[.val (.ref y), .val (.ref o), .val .null, .val (.ref vo), .unset]) rfl q) ?_
  refine Wk.ald C d38_9 rfl rfl ?_
  refine Wk.callV C (x := (⟨AB, "length", "()I"⟩ : MethodName)) (z := (⟨SBN, "length", "()I"⟩ : MethodName)) (K := SBN) (wd hw 229) (wd hw 137) (wd hw 230) (wd hw 131) (wd hw 109) (wd hw 133) (by decide) (fun s' hZ' => notFace_by (args := #[]) (mvT hZ' (hw _ (List.mem_of_getElem? (i := 179) rfl))) rfl) B.1 (own_slen l Z a0 hw n0 h0 o vo cp no g B) (w := 0) (by decide) (by decide) pd_1 rfl (rest := []) rfl rfl (Nat.le_of_eq rfl) (by decide) (by decide) d38_10 ?_
  rintro _ _ ⟨rfl, rfl⟩
  show Wk _ p l e _ s m _ below meth c n0 _ h0 0 0 (mkF m 13 #[.val (.ref y), .val (.ref o), .val .null, .val (.ref vo), .unset] [(.int (Int32.ofNat no))])
  refine Wk.st (g' := (mkF m 15 #[.val (.ref y), .val (.ref o), .val .null, .val (.ref vo), .val (.int (Int32.ofNat no))] [])) (fun X t q => XS.istore X.here C.hx rfl (hb C.hby d38_13) rfl (l' := #[.val (.ref y), .val (.ref o), .val .null, .val (.ref vo), .val (.int (Int32.ofNat no))]) rfl q) ?_
  refine Wk.ald C d38_15 rfl rfl ?_
  refine Wk.callV C (x := (⟨AB, "isLatin1", "()Z"⟩ : MethodName)) (z := (⟨AB, "isLatin1", "()Z"⟩ : MethodName)) (K := SBN) (wd hw 231) (wd hw 232) (wd hw 234) (wd hw 233) (wd hw 121) (wd hw 235) (by decide) (fun s' hZ' => notFace_of_selects (args := #[]) (mvT hZ' (wd hw 234))) B.1 (own_aisL l Z a0 hw n0 h0 cs SC hcs o vo cp no g B) (w := 0) (by decide) (by decide) pd_15 rfl (rest := []) rfl rfl (Nat.le_of_eq rfl) (by decide) (by decide) d38_16 ?_
  rintro _ _ ⟨rfl, rfl⟩
  show Wk _ p l e _ s m _ below meth c n0 _ h0 0 0 (mkF m 19 #[.val (.ref y), .val (.ref o), .val .null, .val (.ref vo), .val (.int (Int32.ofNat no))] [(.int (1 : Int32))])
  refine Wk.ifN C d38_19 (XT.i0_eq_f (by decide)) ?_
  refine Wk.ald C d38_22 rfl rfl ?_
  refine Wk.st (g' := (mkF m 24 #[.val (.ref y), .val (.ref o), .val .null, .val (.ref vo), .val (.int (Int32.ofNat no))] [(.int (0 : Int32)), (.ref y)])) (fun X t q => XS.iconst X.here C.hx rfl (hb C.hby d38_23) q) ?_
  refine Wk.putF C (wd hw 77) Via.refl Y2 Y0 (Or.inr ⟨(wd hw 9), rfl, rfl⟩) (wd hw 6) (ty := .byte) (by decide) (v' := (.int (0 : Int32))) rfl (by decide) gy d38_24 ?_
  intro h1 W2
  have F3 : Fld Z h1 y ST "coder" "B" (.int (0 : Int32)) := Y2.same W2
  have F4 : Sta Z h1 ST "COMPACT_STRINGS" "Z" (.int cs) := SC.wr W2
  have F5 : Exa Z h1 o SBN := B.1.wr W2
  have F6 : Fld Z h1 o AB "value" "[B" (.ref vo) := B.2.1.other W2 (Or.inl y1)
  have F7 : Fld Z h1 o AB "coder" "B" (.int (0 : Int32)) := B.2.2.1.other W2 (Or.inl y1)
  have F8 : Fld Z h1 o AB "count" "I" (.int (Int32.ofNat no)) := B.2.2.2.1.other W2 (Or.inl y1)
  have F9 : Fld Z h1 o AB "maybeLatin1" "Z" (.int (0 : Int32)) := B.2.2.2.2.1.other W2 (Or.inl y1)
  have F10 : Fa Z h1 vo .byte cp g := B.2.2.2.2.2.1.other W2 y2
  have F11 : Exa Z h1 vo "[B" := B.2.2.2.2.2.2.1.wr W2
  have F12 : Exa Z h1 y ST := Y0.wr W2
  have F13 : Fld Z h1 y ST "value" "[B" .null := Y1.other W2 (Or.inr (slot_ne (Or.inr (wd hw 8)) (Or.inr (wd hw 9)) (by decide) (t := (.array .byte)) (t' := .byte) (by decide) (by decide)))
  have sz14 : n0 ≤ h1.size := Nat.le_trans hsz (Nat.le_of_eq W2.size.symm)
  have sy15 : h0.size ≤ h1.size := Nat.le_trans (Nat.le_refl h0.size) (Nat.le_of_eq W2.size.symm)
  have K16 := (Keep.refl h0 [y]).wr W2 (Or.inl (by simp))
  show Wk _ p l e _ s m _ below meth c n0 _ h1 0 0 (mkF m 27 #[.val (.ref y), .val (.ref o), .val .null, .val (.ref vo), .val (.int (Int32.ofNat no))] [])
  refine Wk.ald C d38_27 rfl rfl ?_
  refine Wk.ald C d38_28 rfl rfl ?_
  refine Wk.st (g' := (mkF m 30 #[.val (.ref y), .val (.ref o), .val .null, .val (.ref vo), .val (.int (Int32.ofNat no))] [(.int (0 : Int32)), (.ref vo), (.ref y)])) (fun X t q => XS.iconst X.here C.hx rfl (hb C.hby d38_29) q) ?_
  refine Wk.ildW C d38_30 rfl ?_
  refine Wk.callS C (z := (⟨"java/util/Arrays", "copyOfRange", "([BII)[B"⟩ : MethodName)) (wd hw 236) (wd hw 237) (wd hw 203) (wd hw 238) (by decide) (own_cr l Z a0 hw n0 h1 sz14 vo cp 0 no g F10 F11 B.2.2.2.2.2.2.2.2.1 (Nat.zero_le _) B.2.2.2.2.2.2.2.2.2.1 B.2.2.2.2.2.2.2.2.2.2 (by omega)) (w := 1) (by decide) (by decide) pd_13 rfl (rest := [(.ref y)]) rfl rfl (Nat.le_of_eq rfl) (by decide) (by decide) d38_32 ?_
  rintro _ h17 ⟨vyq19, rfl, K18, gq20, Eq21, Fq22⟩
  show Wk _ p l e _ s m _ below meth c n0 _ h17 1 64 (mkF m 35 #[.val (.ref y), .val (.ref o), .val .null, .val (.ref vo), .val (.int (Int32.ofNat no))] [(.ref vyq19), (.ref y)])
  have ne23 : o ≠ vyq19 := Nat.ne_of_lt (Nat.lt_of_lt_of_le (F5).lt gq20)
  have ne24 : vo ≠ vyq19 := Nat.ne_of_lt (Nat.lt_of_lt_of_le (F10).lt gq20)
  have ne25 : y ≠ vyq19 := Nat.ne_of_lt (Nat.lt_of_lt_of_le (F12).lt gq20)
  have ge26 : n0 ≤ vyq19 := Nat.le_trans sz14 gq20
  have gz27 : h0.size ≤ vyq19 := Nat.le_trans sy15 gq20
  have F28 : Sta Z h17 ST "COMPACT_STRINGS" "Z" (.int cs) := sta_keep F4 K18 nv0
  have F29 : Exa Z h17 o SBN := F5.keep K18
  have F30 : Fld Z h17 o AB "value" "[B" (.ref vo) := F6.keep K18 nm0
  have F31 : Fld Z h17 o AB "coder" "B" (.int (0 : Int32)) := F7.keep K18 nm0
  have F32 : Fld Z h17 o AB "count" "I" (.int (Int32.ofNat no)) := F8.keep K18 nm0
  have F33 : Fld Z h17 o AB "maybeLatin1" "Z" (.int (0 : Int32)) := F9.keep K18 nm0
  have F34 : Fa Z h17 vo .byte cp g := F10.keep K18 nm0
  have F35 : Exa Z h17 vo "[B" := F11.keep K18
  have F36 : Exa Z h17 y ST := F12.keep K18
  have F37 : Fld Z h17 y ST "value" "[B" .null := F13.keep K18 nm0
  have F38 : Fld Z h17 y ST "coder" "B" (.int (0 : Int32)) := F3.keep K18 nm0
  have sz39 : n0 ≤ h17.size := Nat.le_trans sz14 K18.1
  have sy40 : h0.size ≤ h17.size := Nat.le_trans sy15 K18.1
  have K41 := K16.trans K18 nv0
  refine Wk.putF C (wd hw 78) Via.refl F37 F36 (Or.inr ⟨(wd hw 8), rfl, rfl⟩) (wd hw 6) (ty := (.array .byte)) (by decide) (v' := (.ref vyq19)) rfl rfl gy d38_35 ?_
  intro h42 W43
  have F44 : Fld Z h42 y ST "value" "[B" (.ref vyq19) := F37.same W43
  have F45 : Sta Z h42 ST "COMPACT_STRINGS" "Z" (.int cs) := F28.wr W43
  have F46 : Exa Z h42 o SBN := F29.wr W43
  have F47 : Fld Z h42 o AB "value" "[B" (.ref vo) := F30.other W43 (Or.inl y1)
  have F48 : Fld Z h42 o AB "coder" "B" (.int (0 : Int32)) := F31.other W43 (Or.inl y1)
  have F49 : Fld Z h42 o AB "count" "I" (.int (Int32.ofNat no)) := F32.other W43 (Or.inl y1)
  have F50 : Fld Z h42 o AB "maybeLatin1" "Z" (.int (0 : Int32)) := F33.other W43 (Or.inl y1)
  have F51 : Fa Z h42 vo .byte cp g := F34.other W43 y2
  have F52 : Exa Z h42 vo "[B" := F35.wr W43
  have F53 : Exa Z h42 y ST := F36.wr W43
  have F54 : Fld Z h42 y ST "coder" "B" (.int (0 : Int32)) := F38.other W43 (Or.inr (slot_ne (Or.inr (wd hw 9)) (Or.inr (wd hw 8)) (by decide) (t := .byte) (t' := (.array .byte)) (by decide) (by decide)))
  have F55 : Exa Z h42 vyq19 "[B" := Eq21.wr W43
  have F56 : Fa Z h42 vyq19 .byte no (fun i => g (0 + i)) := Fq22.other W43 (Ne.symm ne25)
  have sz57 : n0 ≤ h42.size := Nat.le_trans sz39 (Nat.le_of_eq W43.size.symm)
  have sy58 : h0.size ≤ h42.size := Nat.le_trans sy40 (Nat.le_of_eq W43.size.symm)
  have K59 := K41.wr W43 (Or.inl (by simp))
  show Wk _ p l e _ s m _ below meth c n0 _ h42 1 64 (mkF m 38 #[.val (.ref y), .val (.ref o), .val .null, .val (.ref vo), .val (.int (Int32.ofNat no))] [])
  refine Wk.gto C (pc' := 97) d38_38 (by decide) (by decide) ?_
  exact Wk.retN0 C rfl d38_97 (by decide) (by decide) ⟨vyq19, rfl, K59, gz27, F53, F44, F54, F56.congr (fun i hi => by rw [Nat.zero_add]), F55, ne25, B.2.2.2.2.2.2.2.2.1.less B.2.2.2.2.2.2.2.2.2.1, by omega⟩
theorem d37_0 : decode jdk_42_method_53_code 0 = .ok (.aload_n 0, 1) := by decide +kernel
theorem d37_1 : decode jdk_42_method_53_code 1 = .ok (.aload_n 1, 1) := by decide +kernel
theorem d37_2 : decode jdk_42_method_53_code 2 = .ok (.aconst_null, 1) := by decide +kernel
theorem d37_3 : decode jdk_42_method_53_code 3 = .ok (.invokespecial 489, 3) := by decide +kernel
theorem d37_6 : decode jdk_42_method_53_code 6 = .ok (.return_, 1) := by decide +kernel
set_option maxRecDepth 65536 in
set_option maxHeartbeats 40000000 in
theorem own_sti1 (l : Launch) (Z : State) (a0 : Array Value) (hw : ∀ d ∈ tables_1, d.before a0 Z = true) (n0 : Nat) (h0 : Heap) (cs : Int32) (SC : Sta Z h0 ST "COMPACT_STRINGS" "Z" (.int cs)) (hcs : ¬ cs = (0 : Int32)) (o vo : Addr) (cp no : Nat) (g : Nat → Value) (B : Sb Z h0 o vo cp no g) (hsz : n0 ≤ h0.size) (y : Addr) (gy : n0 ≤ y) (Y0 : Exa Z h0 y ST) (Y1 : Fld Z h0 y ST "value" "[B" .null) (Y2 : Fld Z h0 y ST "coder" "B" (.int (0 : Int32))) (y1 : o ≠ y) (y2 : vo ≠ y) (hno : no ≤ 64) :
    Met false l Z n0 (⟨ST, "<init>", "(Ljava/lang/StringBuilder;)V"⟩ : MethodName) jdk_42_method_53_code 2 none ({ frames := 4, cells := 1, slots := 64, locals := 74 } : Room) #[(.ref y), (.ref o)] h0 (fun r h => ∃ vy : Addr, r = none ∧ Keep h0 h [y] ∧ h0.size ≤ vy ∧ Str Z h y vy no g) := by
  refine Met.of (plainFor_of_name pn_0) #[.val (.ref y), .val (.ref o)] (fun m => by first | (simp [entryFrame, mkF, argsToLocals, Value.category]; done) | rfl) ?_
  intro p e s m below meth c C
  refine Wk.ald C d37_0 rfl rfl ?_
  refine Wk.ald C d37_1 rfl rfl ?_
  refine Wk.st (g' := (mkF m 3 #[.val (.ref y), .val (.ref o)] [.null, (.ref o), (.ref y)])) (fun X t q => XS.aconstNull X.here C.hx rfl (hb C.hby d37_2) q) ?_
  refine Wk.callI C (z := (⟨ST, "<init>", "(Ljava/lang/AbstractStringBuilder;Ljava/lang/Void;)V"⟩ : MethodName)) rfl (wd hw 221) (wd hw 222) (wd hw 5) (wd hw 223) (by decide) (own_sti2 l Z a0 hw n0 h0 cs SC hcs o vo cp no g B hsz y gy Y0 Y1 Y2 y1 y2 hno) (w := 0) (by decide) (by decide) pd_16 rfl (rest := []) rfl rfl (Nat.le_of_eq rfl) (by decide) (by decide) d37_3 ?_
  rintro _ h1 ⟨vy, rfl, K1, g1, S1⟩
  show Wk _ p l e _ s m _ below meth c n0 _ h1 1 64 (mkF m 6 #[.val (.ref y), .val (.ref o)] [])
  exact Wk.retN0 C rfl d37_6 (by decide) (by decide) ⟨vy, rfl, K1, g1, S1⟩
theorem d36_0 : decode jdk_67_method_42_code 0 = .ok (.new 18, 3) := by decide +kernel
theorem d36_3 : decode jdk_67_method_42_code 3 = .ok (.dup, 1) := by decide +kernel
theorem d36_4 : decode jdk_67_method_42_code 4 = .ok (.aload_n 0, 1) := by decide +kernel
theorem d36_5 : decode jdk_67_method_42_code 5 = .ok (.invokespecial 137, 3) := by decide +kernel
theorem d36_8 : decode jdk_67_method_42_code 8 = .ok (.areturn, 1) := by decide +kernel
set_option maxRecDepth 65536 in
set_option maxHeartbeats 40000000 in
theorem own_tos (l : Launch) (Z : State) (a0 : Array Value) (hw : ∀ d ∈ tables_1, d.before a0 Z = true) (n0 : Nat) (h0 : Heap) (cs : Int32) (SC : Sta Z h0 ST "COMPACT_STRINGS" "Z" (.int cs)) (hcs : ¬ cs = (0 : Int32)) (o vo : Addr) (cp no : Nat) (g : Nat → Value) (B : Sb Z h0 o vo cp no g) (hsz : n0 ≤ h0.size) (hno : no ≤ 64) :
    Met false l Z n0 (⟨SBN, "toString", "()Ljava/lang/String;"⟩ : MethodName) jdk_67_method_42_code 1 (some (.object ST)) ({ frames := 5, cells := 2, slots := 68, locals := 88 } : Room) #[(.ref o)] h0 (fun r h => ∃ y vy : Addr, r = some (.ref y) ∧ Keep h0 h [] ∧ h0.size ≤ y ∧ h0.size ≤ vy ∧ Str Z h y vy no g) := by
  refine Met.of (plainFor_of_name pn_2) #[.val (.ref o)] (fun m => by first | (simp [entryFrame, mkF, argsToLocals, Value.category]; done) | rfl) ?_
  intro p e s m below meth c C
  refine Wk.newO C (wd hw 217) (wd hw 6) (wd hw 5) d36_0 (by decide) (by decide) ?_
  intro h1 b2 g3 E4 A5 D6
  have ne7 : o ≠ b2 := Nat.ne_of_lt (Nat.lt_of_lt_of_le B.1.lt (Nat.le_of_eq g3.symm))
  have ne8 : vo ≠ b2 := Nat.ne_of_lt (Nat.lt_of_lt_of_le B.2.2.2.2.2.1.lt (Nat.le_of_eq g3.symm))
  have ge9 : n0 ≤ b2 := Nat.le_trans hsz (Nat.le_of_eq g3.symm)
  have gz10 : h0.size ≤ b2 := Nat.le_trans (Nat.le_refl h0.size) (Nat.le_of_eq g3.symm)
  have F11 : Sta Z h1 ST "COMPACT_STRINGS" "Z" (.int cs) := SC.ext E4
  have F12 : Exa Z h1 o SBN := B.1.ext E4
  have F13 : Fld Z h1 o AB "value" "[B" (.ref vo) := B.2.1.ext E4
  have F14 : Fld Z h1 o AB "coder" "B" (.int (0 : Int32)) := B.2.2.1.ext E4
  have F15 : Fld Z h1 o AB "count" "I" (.int (Int32.ofNat no)) := B.2.2.2.1.ext E4
  have F16 : Fld Z h1 o AB "maybeLatin1" "Z" (.int (0 : Int32)) := B.2.2.2.2.1.ext E4
  have F17 : Fa Z h1 vo .byte cp g := B.2.2.2.2.2.1.ext E4
  have F18 : Exa Z h1 vo "[B" := B.2.2.2.2.2.2.1.ext E4
  have sz19 : n0 ≤ h1.size := Nat.le_trans hsz E4.1
  have sy20 : h0.size ≤ h1.size := Nat.le_trans (Nat.le_refl h0.size) E4.1
  have K21 := (Keep.refl h0 []).ext E4
  have F22 : Fld Z h1 b2 ST "value" "[B" .null := D6 (Or.inr (wd hw 8)) (ty := (.array .byte)) (by decide)
  have F23 : Fld Z h1 b2 ST "coder" "B" (.int (0 : Int32)) := D6 (Or.inr (wd hw 9)) (ty := .byte) (by decide)
  show Wk _ p l e _ s m _ below meth c n0 _ h1 1 4 (mkF m 3 #[.val (.ref o)] [(.ref b2)])
  refine Wk.dupS C d36_3 rfl ?_
  refine Wk.ald C d36_4 rfl rfl ?_
  refine Wk.callI C (z := (⟨ST, "<init>", "(Ljava/lang/StringBuilder;)V"⟩ : MethodName)) rfl (wd hw 218) (wd hw 219) (wd hw 5) (wd hw 220) (by decide) (own_sti1 l Z a0 hw n0 h1 cs F11 hcs o vo cp no g (show Sb Z h1 o vo cp no g from ⟨F12, F13, F14, F15, F16, F17, F18, B.2.2.2.2.2.2.2.1, B.2.2.2.2.2.2.2.2.1, B.2.2.2.2.2.2.2.2.2.1, B.2.2.2.2.2.2.2.2.2.2⟩) sz19 b2 ge9 A5 F22 F23 ne7 ne8 hno) (w := 1) (by decide) (by decide) pd_17 rfl (rest := [(.ref b2)]) rfl rfl (Nat.le_of_eq rfl) (by decide) (by decide) d36_5 ?_
  rintro _ h24 ⟨vyq26, rfl, K25, gq27, Sq28⟩
  show Wk _ p l e _ s m _ below meth c n0 _ h24 2 68 (mkF m 8 #[.val (.ref o)] [(.ref b2)])
  have ne29 : o ≠ vyq26 := Nat.ne_of_lt (Nat.lt_of_lt_of_le (F12).lt gq27)
  have ne30 : vo ≠ vyq26 := Nat.ne_of_lt (Nat.lt_of_lt_of_le (F17).lt gq27)
  have ne31 : b2 ≠ vyq26 := Nat.ne_of_lt (Nat.lt_of_lt_of_le (A5).lt gq27)
  have ge32 : n0 ≤ vyq26 := Nat.le_trans sz19 gq27
  have gz33 : h0.size ≤ vyq26 := Nat.le_trans sy20 gq27
  have F34 : Sta Z h24 ST "COMPACT_STRINGS" "Z" (.int cs) := sta_keep F11 K25 (nvS (exa_ns A5) nv0)
  have F35 : Exa Z h24 o SBN := F12.keep K25
  have F36 : Fld Z h24 o AB "value" "[B" (.ref vo) := F13.keep K25 (nmS ne7 nm0)
  have F37 : Fld Z h24 o AB "coder" "B" (.int (0 : Int32)) := F14.keep K25 (nmS ne7 nm0)
  have F38 : Fld Z h24 o AB "count" "I" (.int (Int32.ofNat no)) := F15.keep K25 (nmS ne7 nm0)
  have F39 : Fld Z h24 o AB "maybeLatin1" "Z" (.int (0 : Int32)) := F16.keep K25 (nmS ne7 nm0)
  have F40 : Fa Z h24 vo .byte cp g := F17.keep K25 (nmS ne8 nm0)
  have F41 : Exa Z h24 vo "[B" := F18.keep K25
  have sz42 : n0 ≤ h24.size := Nat.le_trans sz19 K25.1
  have sy43 : h0.size ≤ h24.size := Nat.le_trans sy20 K25.1
  have K44 := K21.trans K25 (nvS (Or.inr gz10) nv0)
  exact Wk.retV C (t := (.object ST)) rfl rfl (Or.inr (Or.inr (Or.inr (Or.inr ⟨rfl, rfl, rfl⟩)))) d36_8 (by decide) (by decide) ⟨b2, vyq26, rfl, K44, gz10, gz33, Sq28⟩
theorem d46_0 : decode jdk_22_method_1_code 0 = .ok (.aload_n 0, 1) := by decide +kernel
theorem d46_1 : decode jdk_22_method_1_code 1 = .ok (.invokespecial 1, 3) := by decide +kernel
theorem d46_4 : decode jdk_22_method_1_code 4 = .ok (.return_, 1) := by decide +kernel
set_option maxRecDepth 65536 in
set_option maxHeartbeats 40000000 in
theorem own_ac0 (l : Launch) (Z : State) (a0 : Array Value) (hw : ∀ d ∈ tables_1, d.before a0 Z = true) (n0 : Nat) (h0 : Heap) (y : Addr) :
    Met false l Z n0 (⟨"java/util/AbstractCollection", "<init>", "()V"⟩ : MethodName) jdk_22_method_1_code 1 none ({ frames := 1, cells := 0, slots := 0, locals := 12 } : Room) #[(.ref y)] h0 (fun r h => r = none ∧ h0 = h) := by
  refine Met.of (plainFor_of_name pn_4) #[.val (.ref y)] (fun m => by first | (simp [entryFrame, mkF, argsToLocals, Value.category]; done) | rfl) ?_
  intro p e s m below meth c C
  refine Wk.ald C d46_0 rfl rfl ?_
  refine Wk.initO C (wd hw 259) (wd hw 19) (wd hw 20) (w := 0) rfl d46_1 (by decide) (Nat.le_of_eq rfl) (by decide) ?_
  show Wk _ p l e _ s m _ below meth c n0 _ h0 0 0 (mkF m 4 #[.val (.ref y)] [])
  exact Wk.retN0 C rfl d46_4 (by decide) (by decide) ⟨rfl, rfl⟩
theorem d45_0 : decode jdk_39_method_1_code 0 = .ok (.aload_n 0, 1) := by decide +kernel
theorem d45_1 : decode jdk_39_method_1_code 1 = .ok (.invokespecial 1, 3) := by decide +kernel
theorem d45_4 : decode jdk_39_method_1_code 4 = .ok (.aload_n 0, 1) := by decide +kernel
theorem d45_5 : decode jdk_39_method_1_code 5 = .ok (.iconst 0, 1) := by decide +kernel
theorem d45_6 : decode jdk_39_method_1_code 6 = .ok (.putfield 7, 3) := by decide +kernel
theorem d45_9 : decode jdk_39_method_1_code 9 = .ok (.return_, 1) := by decide +kernel
set_option maxRecDepth 65536 in
set_option maxHeartbeats 40000000 in
theorem own_al0 (l : Launch) (Z : State) (a0 : Array Value) (hw : ∀ d ∈ tables_1, d.before a0 Z = true) (n0 : Nat) (h0 : Heap) (y : Addr) (gy : n0 ≤ y) (Y0 : Exa Z h0 y PP) (Y1 : Fld Z h0 y "java/util/AbstractList" "modCount" "I" (.int (0 : Int32))) (Y2 : Fld Z h0 y PP "to" "I" (.int (0 : Int32))) (Y3 : Fld Z h0 y PP "from" "I" (.int (0 : Int32))) (Y4 : Fld Z h0 y PP "text" "Ljava/lang/String;" .null) (Y5 : Fld Z h0 y PP "bounds" "[I" .null) :
    Met false l Z n0 (⟨"java/util/AbstractList", "<init>", "()V"⟩ : MethodName) jdk_39_method_1_code 1 none ({ frames := 2, cells := 0, slots := 0, locals := 24 } : Room) #[(.ref y)] h0 (fun r h => r = none ∧ Keep h0 h [y] ∧ Fld Z h y "java/util/AbstractList" "modCount" "I" (.int (0 : Int32)) ∧ Fld Z h y PP "to" "I" (.int (0 : Int32)) ∧ Fld Z h y PP "from" "I" (.int (0 : Int32)) ∧ Fld Z h y PP "text" "Ljava/lang/String;" .null ∧ Fld Z h y PP "bounds" "[I" .null) := by
  refine Met.of (plainFor_of_name pn_5) #[.val (.ref y)] (fun m => by first | (simp [entryFrame, mkF, argsToLocals, Value.category]; done) | rfl) ?_
  intro p e s m below meth c C
  refine Wk.ald C d45_0 rfl rfl ?_
  refine Wk.callI C (z := (⟨"java/util/AbstractCollection", "<init>", "()V"⟩ : MethodName)) rfl (wd hw 253) (wd hw 254) (wd hw 257) (wd hw 258) (by decide) (own_ac0 l Z a0 hw n0 h0 y) (w := 0) (by decide) (by decide) pd_18 rfl (rest := []) rfl rfl (Nat.le_of_eq rfl) (by decide) (by decide) d45_1 ?_
  rintro _ _ ⟨rfl, rfl⟩
  show Wk _ p l e _ s m _ below meth c n0 _ h0 0 0 (mkF m 4 #[.val (.ref y)] [])
  refine Wk.ald C d45_4 rfl rfl ?_
  refine Wk.st (g' := (mkF m 6 #[.val (.ref y)] [(.int (0 : Int32)), (.ref y)])) (fun X t q => XS.iconst X.here C.hx rfl (hb C.hby d45_5) q) ?_
  refine Wk.putF C (wd hw 260) Via.refl Y1 Y0 (Or.inl (wd hw 261)) (wd hw 211) (ty := .int) (by decide) (v' := (.int (0 : Int32))) rfl rfl gy d45_6 ?_
  intro h1 W2
  have F3 : Fld Z h1 y "java/util/AbstractList" "modCount" "I" (.int (0 : Int32)) := Y1.same W2
  have F4 : Exa Z h1 y PP := Y0.wr W2
  have F5 : Fld Z h1 y PP "to" "I" (.int (0 : Int32)) := Y2.other W2 (Or.inr (slot_ne (Or.inr (wd hw 53)) (Or.inl (wd hw 261)) (by decide) (t := .int) (t' := .int) (by decide) (by decide)))
  have F6 : Fld Z h1 y PP "from" "I" (.int (0 : Int32)) := Y3.other W2 (Or.inr (slot_ne (Or.inr (wd hw 55)) (Or.inl (wd hw 261)) (by decide) (t := .int) (t' := .int) (by decide) (by decide)))
  have F7 : Fld Z h1 y PP "text" "Ljava/lang/String;" .null := Y4.other W2 (Or.inr (slot_ne (Or.inr (wd hw 263)) (Or.inl (wd hw 261)) (by decide) (t := (.object ST)) (t' := .int) (by decide) (by decide)))
  have F8 : Fld Z h1 y PP "bounds" "[I" .null := Y5.other W2 (Or.inr (slot_ne (Or.inr (wd hw 265)) (Or.inl (wd hw 261)) (by decide) (t := (.array .int)) (t' := .int) (by decide) (by decide)))
  have K9 := (Keep.refl h0 [y]).wr W2 (Or.inl (by simp))
  show Wk _ p l e _ s m _ below meth c n0 _ h1 0 0 (mkF m 9 #[.val (.ref y)] [])
  exact Wk.retN0 C rfl d45_9 (by decide) (by decide) ⟨rfl, K9, F3, F5, F6, F7, F8⟩
theorem d44_0 : decode prog_43_method_1_code 0 = .ok (.aload_n 0, 1) := by decide +kernel
theorem d44_1 : decode prog_43_method_1_code 1 = .ok (.invokespecial 1, 3) := by decide +kernel
theorem d44_4 : decode prog_43_method_1_code 4 = .ok (.aload_n 0, 1) := by decide +kernel
theorem d44_5 : decode prog_43_method_1_code 5 = .ok (.aload_n 1, 1) := by decide +kernel
theorem d44_6 : decode prog_43_method_1_code 6 = .ok (.putfield 7, 3) := by decide +kernel
theorem d44_9 : decode prog_43_method_1_code 9 = .ok (.aload_n 0, 1) := by decide +kernel
theorem d44_10 : decode prog_43_method_1_code 10 = .ok (.aload_n 2, 1) := by decide +kernel
theorem d44_11 : decode prog_43_method_1_code 11 = .ok (.putfield 13, 3) := by decide +kernel
theorem d44_14 : decode prog_43_method_1_code 14 = .ok (.aload_n 0, 1) := by decide +kernel
theorem d44_15 : decode prog_43_method_1_code 15 = .ok (.iload_n 3, 1) := by decide +kernel
theorem d44_16 : decode prog_43_method_1_code 16 = .ok (.putfield 17, 3) := by decide +kernel
theorem d44_19 : decode prog_43_method_1_code 19 = .ok (.aload_n 0, 1) := by decide +kernel
theorem d44_20 : decode prog_43_method_1_code 20 = .ok (.iload 4, 2) := by decide +kernel
theorem d44_22 : decode prog_43_method_1_code 22 = .ok (.putfield 21, 3) := by decide +kernel
theorem d44_25 : decode prog_43_method_1_code 25 = .ok (.return_, 1) := by decide +kernel
set_option maxRecDepth 65536 in
set_option maxHeartbeats 40000000 in
theorem own_pin (l : Launch) (Z : State) (a0 : Array Value) (hw : ∀ d ∈ tables_1, d.before a0 Z = true) (n0 : Nat) (h0 : Heap) (y : Addr) (gy : n0 ≤ y) (Y0 : Exa Z h0 y PP) (Y1 : Fld Z h0 y "java/util/AbstractList" "modCount" "I" (.int (0 : Int32))) (Y2 : Fld Z h0 y PP "to" "I" (.int (0 : Int32))) (Y3 : Fld Z h0 y PP "from" "I" (.int (0 : Int32))) (Y4 : Fld Z h0 y PP "text" "Ljava/lang/String;" .null) (Y5 : Fld Z h0 y PP "bounds" "[I" .null) (x bd : Addr) (k : Nat) :
    Met false l Z n0 (⟨PP, "<init>", "(Ljava/lang/String;[III)V"⟩ : MethodName) prog_43_method_1_code 5 none ({ frames := 3, cells := 0, slots := 0, locals := 36 } : Room) #[(.ref y), (.ref x), (.ref bd), (.int (0 : Int32)), (.int (Int32.ofNat k))] h0 (fun r h => r = none ∧ Keep h0 h [y] ∧ Fld Z h y PP "to" "I" (.int (Int32.ofNat k)) ∧ Fld Z h y PP "from" "I" (.int (0 : Int32)) ∧ Fld Z h y PP "text" "Ljava/lang/String;" (.ref x) ∧ Fld Z h y PP "bounds" "[I" (.ref bd)) := by
  refine Met.of (plainFor_of_name pn_6) #[.val (.ref y), .val (.ref x), .val (.ref bd), .val (.int (0 : Int32)), .val (.int (Int32.ofNat k))] (fun m => by first | (simp [entryFrame, mkF, argsToLocals, Value.category]; done) | rfl) ?_
  intro p e s m below meth c C
  refine Wk.ald C d44_0 rfl rfl ?_
  refine Wk.callI C (z := (⟨"java/util/AbstractList", "<init>", "()V"⟩ : MethodName)) rfl (wd hw 248) (wd hw 249) (wd hw 251) (wd hw 252) (by decide) (own_al0 l Z a0 hw n0 h0 y gy Y0 Y1 Y2 Y3 Y4 Y5) (w := 0) (by decide) (by decide) pd_18 rfl (rest := []) rfl rfl (Nat.le_of_eq rfl) (by decide) (by decide) d44_1 ?_
  rintro _ h1 ⟨rfl, K2, Aq3, Bq4, Cq5, Dq6, Eq7⟩
  show Wk _ p l e _ s m _ below meth c n0 _ h1 0 0 (mkF m 4 #[.val (.ref y), .val (.ref x), .val (.ref bd), .val (.int (0 : Int32)), .val (.int (Int32.ofNat k))] [])
  have F8 : Exa Z h1 y PP := Y0.keep K2
  have K9 := (Keep.refl h0 [y]).trans K2 (nvS (Or.inl (by simp)) nv0)
  refine Wk.ald C d44_4 rfl rfl ?_
  refine Wk.ald C d44_5 rfl rfl ?_
  refine Wk.putF C (wd hw 262) Via.refl Dq6 F8 (Or.inr ⟨(wd hw 263), rfl, rfl⟩) (wd hw 211) (ty := (.object ST)) (by decide) (v' := (.ref x)) rfl rfl gy d44_6 ?_
  intro h10 W11
  have F12 : Fld Z h10 y PP "text" "Ljava/lang/String;" (.ref x) := Dq6.same W11
  have F13 : Exa Z h10 y PP := F8.wr W11
  have F14 : Fld Z h10 y "java/util/AbstractList" "modCount" "I" (.int (0 : Int32)) := Aq3.other W11 (Or.inr (slot_ne (Or.inl (wd hw 261)) (Or.inr (wd hw 263)) (by decide) (t := .int) (t' := (.object ST)) (by decide) (by decide)))
  have F15 : Fld Z h10 y PP "to" "I" (.int (0 : Int32)) := Bq4.other W11 (Or.inr (slot_ne (Or.inr (wd hw 53)) (Or.inr (wd hw 263)) (by decide) (t := .int) (t' := (.object ST)) (by decide) (by decide)))
  have F16 : Fld Z h10 y PP "from" "I" (.int (0 : Int32)) := Cq5.other W11 (Or.inr (slot_ne (Or.inr (wd hw 55)) (Or.inr (wd hw 263)) (by decide) (t := .int) (t' := (.object ST)) (by decide) (by decide)))
  have F17 : Fld Z h10 y PP "bounds" "[I" .null := Eq7.other W11 (Or.inr (slot_ne (Or.inr (wd hw 265)) (Or.inr (wd hw 263)) (by decide) (t := (.array .int)) (t' := (.object ST)) (by decide) (by decide)))
  have K18 := K9.wr W11 (Or.inl (by simp))
  show Wk _ p l e _ s m _ below meth c n0 _ h10 0 0 (mkF m 9 #[.val (.ref y), .val (.ref x), .val (.ref bd), .val (.int (0 : Int32)), .val (.int (Int32.ofNat k))] [])
  refine Wk.ald C d44_9 rfl rfl ?_
  refine Wk.ald C d44_10 rfl rfl ?_
  refine Wk.putF C (wd hw 264) Via.refl F17 F13 (Or.inr ⟨(wd hw 265), rfl, rfl⟩) (wd hw 211) (ty := (.array .int)) (by decide) (v' := (.ref bd)) rfl rfl gy d44_11 ?_
  intro h19 W20
  have F21 : Fld Z h19 y PP "bounds" "[I" (.ref bd) := F17.same W20
  have F22 : Exa Z h19 y PP := F13.wr W20
  have F23 : Fld Z h19 y "java/util/AbstractList" "modCount" "I" (.int (0 : Int32)) := F14.other W20 (Or.inr (slot_ne (Or.inl (wd hw 261)) (Or.inr (wd hw 265)) (by decide) (t := .int) (t' := (.array .int)) (by decide) (by decide)))
  have F24 : Fld Z h19 y PP "to" "I" (.int (0 : Int32)) := F15.other W20 (Or.inr (slot_ne (Or.inr (wd hw 53)) (Or.inr (wd hw 265)) (by decide) (t := .int) (t' := (.array .int)) (by decide) (by decide)))
  have F25 : Fld Z h19 y PP "from" "I" (.int (0 : Int32)) := F16.other W20 (Or.inr (slot_ne (Or.inr (wd hw 55)) (Or.inr (wd hw 265)) (by decide) (t := .int) (t' := (.array .int)) (by decide) (by decide)))
  have F26 : Fld Z h19 y PP "text" "Ljava/lang/String;" (.ref x) := F12.other W20 (Or.inr (slot_ne (Or.inr (wd hw 263)) (Or.inr (wd hw 265)) (by decide) (t := (.object ST)) (t' := (.array .int)) (by decide) (by decide)))
  have K27 := K18.wr W20 (Or.inl (by simp))
  show Wk _ p l e _ s m _ below meth c n0 _ h19 0 0 (mkF m 14 #[.val (.ref y), .val (.ref x), .val (.ref bd), .val (.int (0 : Int32)), .val (.int (Int32.ofNat k))] [])
  refine Wk.ald C d44_14 rfl rfl ?_
  refine Wk.ild C d44_15 rfl ?_
  refine Wk.putF C (wd hw 54) Via.refl F25 F22 (Or.inr ⟨(wd hw 55), rfl, rfl⟩) (wd hw 211) (ty := .int) (by decide) (v' := (.int (0 : Int32))) rfl rfl gy d44_16 ?_
  intro h28 W29
  have F30 : Fld Z h28 y PP "from" "I" (.int (0 : Int32)) := F25.same W29
  have F31 : Exa Z h28 y PP := F22.wr W29
  have F32 : Fld Z h28 y "java/util/AbstractList" "modCount" "I" (.int (0 : Int32)) := F23.other W29 (Or.inr (slot_ne (Or.inl (wd hw 261)) (Or.inr (wd hw 55)) (by decide) (t := .int) (t' := .int) (by decide) (by decide)))
  have F33 : Fld Z h28 y PP "to" "I" (.int (0 : Int32)) := F24.other W29 (Or.inr (slot_ne (Or.inr (wd hw 53)) (Or.inr (wd hw 55)) (by decide) (t := .int) (t' := .int) (by decide) (by decide)))
  have F34 : Fld Z h28 y PP "text" "Ljava/lang/String;" (.ref x) := F26.other W29 (Or.inr (slot_ne (Or.inr (wd hw 263)) (Or.inr (wd hw 55)) (by decide) (t := (.object ST)) (t' := .int) (by decide) (by decide)))
  have F35 : Fld Z h28 y PP "bounds" "[I" (.ref bd) := F21.other W29 (Or.inr (slot_ne (Or.inr (wd hw 265)) (Or.inr (wd hw 55)) (by decide) (t := (.array .int)) (t' := .int) (by decide) (by decide)))
  have K36 := K27.wr W29 (Or.inl (by simp))
  show Wk _ p l e _ s m _ below meth c n0 _ h28 0 0 (mkF m 19 #[.val (.ref y), .val (.ref x), .val (.ref bd), .val (.int (0 : Int32)), .val (.int (Int32.ofNat k))] [])
  refine Wk.ald C d44_19 rfl rfl ?_
  refine Wk.ildW C d44_20 rfl ?_
  refine Wk.putF C (wd hw 52) Via.refl F33 F31 (Or.inr ⟨(wd hw 53), rfl, rfl⟩) (wd hw 211) (ty := .int) (by decide) (v' := (.int (Int32.ofNat k))) rfl rfl gy d44_22 ?_
  intro h37 W38
  have F39 : Fld Z h37 y PP "to" "I" (.int (Int32.ofNat k)) := F33.same W38
  have F40 : Exa Z h37 y PP := F31.wr W38
  have F41 : Fld Z h37 y "java/util/AbstractList" "modCount" "I" (.int (0 : Int32)) := F32.other W38 (Or.inr (slot_ne (Or.inl (wd hw 261)) (Or.inr (wd hw 53)) (by decide) (t := .int) (t' := .int) (by decide) (by decide)))
  have F42 : Fld Z h37 y PP "text" "Ljava/lang/String;" (.ref x) := F34.other W38 (Or.inr (slot_ne (Or.inr (wd hw 263)) (Or.inr (wd hw 53)) (by decide) (t := (.object ST)) (t' := .int) (by decide) (by decide)))
  have F43 : Fld Z h37 y PP "bounds" "[I" (.ref bd) := F35.other W38 (Or.inr (slot_ne (Or.inr (wd hw 265)) (Or.inr (wd hw 53)) (by decide) (t := (.array .int)) (t' := .int) (by decide) (by decide)))
  have F44 : Fld Z h37 y PP "from" "I" (.int (0 : Int32)) := F30.other W38 (Or.inr (slot_ne (Or.inr (wd hw 55)) (Or.inr (wd hw 53)) (by decide) (t := .int) (t' := .int) (by decide) (by decide)))
  have K45 := K36.wr W38 (Or.inl (by simp))
  show Wk _ p l e _ s m _ below meth c n0 _ h37 0 0 (mkF m 25 #[.val (.ref y), .val (.ref x), .val (.ref bd), .val (.int (0 : Int32)), .val (.int (Int32.ofNat k))] [])
  exact Wk.retN0 C rfl d44_25 (by decide) (by decide) ⟨rfl, K45, F39, F44, F42, F43⟩
theorem d2_0 : decode prog_44_method_2_code 0 = .ok (.aload_n 0, 1) := by decide +kernel
theorem d2_1 : decode prog_44_method_2_code 1 = .ok (.invokespecial 7, 3) := by decide +kernel
theorem d2_4 : decode prog_44_method_2_code 4 = .ok (.aload_n 0, 1) := by decide +kernel
theorem d2_5 : decode prog_44_method_2_code 5 = .ok (.getstatic 12, 3) := by decide +kernel
theorem d2_8 : decode prog_44_method_2_code 8 = .ok (.putfield 16, 3) := by decide +kernel
theorem d2_11 : decode prog_44_method_2_code 11 = .ok (.aload_n 0, 1) := by decide +kernel
theorem d2_12 : decode prog_44_method_2_code 12 = .ok (.iload_n 1, 1) := by decide +kernel
theorem d2_13 : decode prog_44_method_2_code 13 = .ok (.putfield 19, 3) := by decide +kernel
theorem d2_16 : decode prog_44_method_2_code 16 = .ok (.return_, 1) := by decide +kernel
set_option maxRecDepth 65536 in
set_option maxHeartbeats 40000000 in
theorem own_bin (l : Launch) (Z : State) (a0 : Array Value) (hw : ∀ d ∈ tables_1, d.before a0 Z = true) (n0 : Nat) (h0 : Heap) (b : Addr) (gb : n0 ≤ b) (E0 : Exa Z h0 b PB) (P1 : Fld Z h0 b PB "text" "Ljava/lang/StringBuilder;" .null) (P2 : Fld Z h0 b PB "bounds" "[I" .null) (P3 : Fld Z h0 b PB "count" "I" (.int (0 : Int32))) (P4 : Fld Z h0 b PB "characters" "I" (.int (0 : Int32))) (ch : Nat) (nb : Addr) (f0 : Nat → Value) (NB : Sta Z h0 PB "NO_BOUNDS" "[I" (.ref nb)) (NA : Fa Z h0 nb .int 1 f0) (NI : FI f0 1) (nbb : nb ≠ b) :
    Met false l Z n0 (⟨PB, "<init>", "(I)V"⟩ : MethodName) prog_44_method_2_code 2 none ({ frames := 1, cells := 0, slots := 0, locals := 12 } : Room) #[(.ref b), (.int (Int32.ofNat ch))] h0 (fun r h => r = none ∧ Keep h0 h [b] ∧ BB Z h b 0 1 f0 ch (fun _ => Fld Z h b PB "text" TD .null)) := by
  refine Met.of (plainFor_of_name pn_7) #[.val (.ref b), .val (.int (Int32.ofNat ch))] (fun m => by first | (simp [entryFrame, mkF, argsToLocals, Value.category]; done) | rfl) ?_
  intro p e s m below meth c C
  refine Wk.ald C d2_0 rfl rfl ?_
  refine Wk.initO C (wd hw 18) (wd hw 19) (wd hw 20) (w := 0) rfl d2_1 (by decide) (Nat.le_of_eq rfl) (by decide) ?_
  show Wk _ p l e _ s m _ below meth c n0 _ h0 0 0 (mkF m 4 #[.val (.ref b), .val (.int (Int32.ofNat ch))] [])
  refine Wk.ald C d2_4 rfl rfl ?_
  refine Wk.getS C (wd hw 21) NB d2_5 ?_
  show Wk _ p l e _ s m _ below meth c n0 _ h0 0 0 (mkF m 8 #[.val (.ref b), .val (.int (Int32.ofNat ch))] [(.ref nb), (.ref b)])
  refine Wk.putF C (wd hw 23) Via.refl P2 E0 (Or.inl (wd hw 24)) (wd hw 13) (ty := (.array .int)) (by decide) (v' := (.ref nb)) rfl rfl gb d2_8 ?_
  intro h1 W2
  have F3 : Fld Z h1 b PB "bounds" "[I" (.ref nb) := P2.same W2
  have F4 : Exa Z h1 b PB := E0.wr W2
  have F5 : Fld Z h1 b PB "text" "Ljava/lang/StringBuilder;" .null := P1.other W2 (Or.inr (slot_ne (Or.inl (wd hw 43)) (Or.inl (wd hw 24)) (by decide) (t := (.object SBN)) (t' := (.array .int)) (by decide) (by decide)))
  have F6 : Fld Z h1 b PB "count" "I" (.int (0 : Int32)) := P3.other W2 (Or.inr (slot_ne (Or.inl (wd hw 33)) (Or.inl (wd hw 24)) (by decide) (t := .int) (t' := (.array .int)) (by decide) (by decide)))
  have F7 : Fld Z h1 b PB "characters" "I" (.int (0 : Int32)) := P4.other W2 (Or.inr (slot_ne (Or.inr (wd hw 26)) (Or.inl (wd hw 24)) (by decide) (t := .int) (t' := (.array .int)) (by decide) (by decide)))
  have F8 : Sta Z h1 PB "NO_BOUNDS" "[I" (.ref nb) := NB.wr W2
  have F9 : Fa Z h1 nb .int 1 f0 := NA.other W2 nbb
  have K10 := (Keep.refl h0 [b]).wr W2 (Or.inl (by simp))
  show Wk _ p l e _ s m _ below meth c n0 _ h1 0 0 (mkF m 11 #[.val (.ref b), .val (.int (Int32.ofNat ch))] [])
  refine Wk.ald C d2_11 rfl rfl ?_
  refine Wk.ild C d2_12 rfl ?_
  refine Wk.putF C (wd hw 25) Via.refl F7 F4 (Or.inr ⟨(wd hw 26), rfl, rfl⟩) (wd hw 13) (ty := .int) (by decide) (v' := (.int (Int32.ofNat ch))) rfl rfl gb d2_13 ?_
  intro h11 W12
  have F13 : Fld Z h11 b PB "characters" "I" (.int (Int32.ofNat ch)) := F7.same W12
  have F14 : Exa Z h11 b PB := F4.wr W12
  have F15 : Fld Z h11 b PB "text" "Ljava/lang/StringBuilder;" .null := F5.other W12 (Or.inr (slot_ne (Or.inl (wd hw 43)) (Or.inr (wd hw 26)) (by decide) (t := (.object SBN)) (t' := .int) (by decide) (by decide)))
  have F16 : Fld Z h11 b PB "count" "I" (.int (0 : Int32)) := F6.other W12 (Or.inr (slot_ne (Or.inl (wd hw 33)) (Or.inr (wd hw 26)) (by decide) (t := .int) (t' := .int) (by decide) (by decide)))
  have F17 : Sta Z h11 PB "NO_BOUNDS" "[I" (.ref nb) := F8.wr W12
  have F18 : Fa Z h11 nb .int 1 f0 := F9.other W12 nbb
  have F19 : Fld Z h11 b PB "bounds" "[I" (.ref nb) := F3.other W12 (Or.inr (slot_ne (Or.inl (wd hw 24)) (Or.inr (wd hw 26)) (by decide) (t := (.array .int)) (t' := .int) (by decide) (by decide)))
  have K20 := K10.wr W12 (Or.inl (by simp))
  show Wk _ p l e _ s m _ below meth c n0 _ h11 0 0 (mkF m 16 #[.val (.ref b), .val (.int (Int32.ofNat ch))] [])
  exact Wk.retN0 C rfl d2_16 (by decide) (by decide) ⟨rfl, K20, F14, F16, F13, nb, F19, F18, NI, nbb, F15⟩
theorem d5_0 : decode prog_44_method_5_code 0 = .ok (.aload_n 0, 1) := by decide +kernel
theorem d5_1 : decode prog_44_method_5_code 1 = .ok (.aconst_null, 1) := by decide +kernel
theorem d5_2 : decode prog_44_method_5_code 2 = .ok (.putfield 36, 3) := by decide +kernel
theorem d5_5 : decode prog_44_method_5_code 5 = .ok (.aload_n 0, 1) := by decide +kernel
theorem d5_6 : decode prog_44_method_5_code 6 = .ok (.getstatic 12, 3) := by decide +kernel
theorem d5_9 : decode prog_44_method_5_code 9 = .ok (.putfield 16, 3) := by decide +kernel
theorem d5_12 : decode prog_44_method_5_code 12 = .ok (.aload_n 0, 1) := by decide +kernel
theorem d5_13 : decode prog_44_method_5_code 13 = .ok (.iconst 0, 1) := by decide +kernel
theorem d5_14 : decode prog_44_method_5_code 14 = .ok (.putfield 49, 3) := by decide +kernel
theorem d5_17 : decode prog_44_method_5_code 17 = .ok (.return_, 1) := by decide +kernel
set_option maxRecDepth 65536 in
set_option maxHeartbeats 40000000 in
theorem own_clr (l : Launch) (Z : State) (a0 : Array Value) (hw : ∀ d ∈ tables_1, d.before a0 Z = true) (n0 : Nat) (h0 : Heap) (b : Addr) (gb : n0 ≤ b) (k ch : Nat) (H : BC Z h0 b k ch) (nb : Addr) (f0 : Nat → Value) (NB : Sta Z h0 PB "NO_BOUNDS" "[I" (.ref nb)) (NA : Fa Z h0 nb .int 1 f0) (NI : FI f0 1) (nbb : nb ≠ b) :
    Met false l Z n0 (⟨PB, "clear", "()V"⟩ : MethodName) prog_44_method_5_code 1 none ({ frames := 0, cells := 0, slots := 0, locals := 0 } : Room) #[(.ref b)] h0 (fun r h => r = none ∧ Keep h0 h [b] ∧ BB Z h b 0 1 f0 ch (fun _ => Fld Z h b PB "text" TD .null)) := by
  refine Met.of (plainFor_of_name pn_7) #[.val (.ref b)] (fun m => by first | (simp [entryFrame, mkF, argsToLocals, Value.category]; done) | rfl) ?_
  intro p e s m below meth c C
  obtain ⟨E0, P3, P4, tv, bv, P1, P2⟩ := H
  refine Wk.ald C d5_0 rfl rfl ?_
  refine Wk.st (g' := (mkF m 2 #[.val (.ref b)] [.null, (.ref b)])) (fun X t q => XS.aconstNull X.here C.hx rfl (hb C.hby d5_1) q) ?_
  refine Wk.putF C (wd hw 42) Via.refl P1 E0 (Or.inl (wd hw 43)) (wd hw 13) (ty := (.object SBN)) (by decide) (v' := .null) rfl rfl gb d5_2 ?_
  intro h1 W2
  have F3 : Fld Z h1 b PB "text" "Ljava/lang/StringBuilder;" .null := P1.same W2
  have F4 : Exa Z h1 b PB := E0.wr W2
  have F5 : Fld Z h1 b PB "bounds" "[I" bv := P2.other W2 (Or.inr (slot_ne (Or.inl (wd hw 24)) (Or.inl (wd hw 43)) (by decide) (t := (.array .int)) (t' := (.object SBN)) (by decide) (by decide)))
  have F6 : Fld Z h1 b PB "count" "I" (.int (Int32.ofNat k)) := P3.other W2 (Or.inr (slot_ne (Or.inl (wd hw 33)) (Or.inl (wd hw 43)) (by decide) (t := .int) (t' := (.object SBN)) (by decide) (by decide)))
  have F7 : Fld Z h1 b PB "characters" "I" (.int (Int32.ofNat ch)) := P4.other W2 (Or.inr (slot_ne (Or.inr (wd hw 26)) (Or.inl (wd hw 43)) (by decide) (t := .int) (t' := (.object SBN)) (by decide) (by decide)))
  have F8 : Sta Z h1 PB "NO_BOUNDS" "[I" (.ref nb) := NB.wr W2
  have F9 : Fa Z h1 nb .int 1 f0 := NA.other W2 nbb
  have K10 := (Keep.refl h0 [b]).wr W2 (Or.inl (by simp))
  show Wk _ p l e _ s m _ below meth c n0 _ h1 0 0 (mkF m 5 #[.val (.ref b)] [])
  refine Wk.ald C d5_5 rfl rfl ?_
  refine Wk.getS C (wd hw 21) F8 d5_6 ?_
  show Wk _ p l e _ s m _ below meth c n0 _ h1 0 0 (mkF m 9 #[.val (.ref b)] [(.ref nb), (.ref b)])
  refine Wk.putF C (wd hw 23) Via.refl F5 F4 (Or.inl (wd hw 24)) (wd hw 13) (ty := (.array .int)) (by decide) (v' := (.ref nb)) rfl rfl gb d5_9 ?_
  intro h11 W12
  have F13 : Fld Z h11 b PB "bounds" "[I" (.ref nb) := F5.same W12
  have F14 : Exa Z h11 b PB := F4.wr W12
  have F15 : Fld Z h11 b PB "count" "I" (.int (Int32.ofNat k)) := F6.other W12 (Or.inr (slot_ne (Or.inl (wd hw 33)) (Or.inl (wd hw 24)) (by decide) (t := .int) (t' := (.array .int)) (by decide) (by decide)))
  have F16 : Fld Z h11 b PB "characters" "I" (.int (Int32.ofNat ch)) := F7.other W12 (Or.inr (slot_ne (Or.inr (wd hw 26)) (Or.inl (wd hw 24)) (by decide) (t := .int) (t' := (.array .int)) (by decide) (by decide)))
  have F17 : Sta Z h11 PB "NO_BOUNDS" "[I" (.ref nb) := F8.wr W12
  have F18 : Fa Z h11 nb .int 1 f0 := F9.other W12 nbb
  have F19 : Fld Z h11 b PB "text" "Ljava/lang/StringBuilder;" .null := F3.other W12 (Or.inr (slot_ne (Or.inl (wd hw 43)) (Or.inl (wd hw 24)) (by decide) (t := (.object SBN)) (t' := (.array .int)) (by decide) (by decide)))
  have K20 := K10.wr W12 (Or.inl (by simp))
  show Wk _ p l e _ s m _ below meth c n0 _ h11 0 0 (mkF m 12 #[.val (.ref b)] [])
  refine Wk.ald C d5_12 rfl rfl ?_
  refine Wk.st (g' := (mkF m 14 #[.val (.ref b)] [(.int (0 : Int32)), (.ref b)])) (fun X t q => XS.iconst X.here C.hx rfl (hb C.hby d5_13) q) ?_
  refine Wk.putF C (wd hw 32) Via.refl F15 F14 (Or.inl (wd hw 33)) (wd hw 13) (ty := .int) (by decide) (v' := (.int (0 : Int32))) rfl rfl gb d5_14 ?_
  intro h21 W22
  have F23 : Fld Z h21 b PB "count" "I" (.int (0 : Int32)) := F15.same W22
  have F24 : Exa Z h21 b PB := F14.wr W22
  have F25 : Fld Z h21 b PB "characters" "I" (.int (Int32.ofNat ch)) := F16.other W22 (Or.inr (slot_ne (Or.inr (wd hw 26)) (Or.inl (wd hw 33)) (by decide) (t := .int) (t' := .int) (by decide) (by decide)))
  have F26 : Sta Z h21 PB "NO_BOUNDS" "[I" (.ref nb) := F17.wr W22
  have F27 : Fa Z h21 nb .int 1 f0 := F18.other W22 nbb
  have F28 : Fld Z h21 b PB "text" "Ljava/lang/StringBuilder;" .null := F19.other W22 (Or.inr (slot_ne (Or.inl (wd hw 43)) (Or.inl (wd hw 33)) (by decide) (t := (.object SBN)) (t' := .int) (by decide) (by decide)))
  have F29 : Fld Z h21 b PB "bounds" "[I" (.ref nb) := F13.other W22 (Or.inr (slot_ne (Or.inl (wd hw 24)) (Or.inl (wd hw 33)) (by decide) (t := (.array .int)) (t' := .int) (by decide) (by decide)))
  have K30 := K20.wr W22 (Or.inl (by simp))
  show Wk _ p l e _ s m _ below meth c n0 _ h21 0 0 (mkF m 17 #[.val (.ref b)] [])
  exact Wk.retN0 C rfl d5_17 (by decide) (by decide) ⟨rfl, K30, F24, F23, F25, nb, F29, F27, NI, nbb, F28⟩
theorem d17_0 : decode prog_44_method_9_code 0 = .ok (.aload_n 0, 1) := by decide +kernel
theorem d17_1 : decode prog_44_method_9_code 1 = .ok (.getfield 36, 3) := by decide +kernel
theorem d17_4 : decode prog_44_method_9_code 4 = .ok (.ifnonnull 22, 3) := by decide +kernel
theorem d17_7 : decode prog_44_method_9_code 7 = .ok (.aload_n 0, 1) := by decide +kernel
theorem d17_8 : decode prog_44_method_9_code 8 = .ok (.new 41, 3) := by decide +kernel
theorem d17_11 : decode prog_44_method_9_code 11 = .ok (.dup, 1) := by decide +kernel
theorem d17_12 : decode prog_44_method_9_code 12 = .ok (.aload_n 0, 1) := by decide +kernel
theorem d17_13 : decode prog_44_method_9_code 13 = .ok (.getfield 19, 3) := by decide +kernel
theorem d17_16 : decode prog_44_method_9_code 16 = .ok (.iload_n 1, 1) := by decide +kernel
theorem d17_17 : decode prog_44_method_9_code 17 = .ok (.invokestatic 96, 3) := by decide +kernel
theorem d17_20 : decode prog_44_method_9_code 20 = .ok (.invokespecial 102, 3) := by decide +kernel
theorem d17_23 : decode prog_44_method_9_code 23 = .ok (.putfield 36, 3) := by decide +kernel
theorem d17_26 : decode prog_44_method_9_code 26 = .ok (.aload_n 0, 1) := by decide +kernel
theorem d17_27 : decode prog_44_method_9_code 27 = .ok (.getfield 36, 3) := by decide +kernel
theorem d17_30 : decode prog_44_method_9_code 30 = .ok (.invokevirtual 58, 3) := by decide +kernel
theorem d17_33 : decode prog_44_method_9_code 33 = .ok (.iload_n 1, 1) := by decide +kernel
theorem d17_34 : decode prog_44_method_9_code 34 = .ok (.iadd, 1) := by decide +kernel
theorem d17_35 : decode prog_44_method_9_code 35 = .ok (.istore_n 2, 1) := by decide +kernel
theorem d17_36 : decode prog_44_method_9_code 36 = .ok (.iload_n 2, 1) := by decide +kernel
theorem d17_37 : decode prog_44_method_9_code 37 = .ok (.aload_n 0, 1) := by decide +kernel
theorem d17_38 : decode prog_44_method_9_code 38 = .ok (.getfield 36, 3) := by decide +kernel
theorem d17_41 : decode prog_44_method_9_code 41 = .ok (.invokevirtual 103, 3) := by decide +kernel
theorem d17_44 : decode prog_44_method_9_code 44 = .ok (.if_icmp .le 46, 3) := by decide +kernel
theorem d17_47 : decode prog_44_method_9_code 47 = .ok (.new 41, 3) := by decide +kernel
theorem d17_50 : decode prog_44_method_9_code 50 = .ok (.dup, 1) := by decide +kernel
theorem d17_51 : decode prog_44_method_9_code 51 = .ok (.iload_n 2, 1) := by decide +kernel
theorem d17_52 : decode prog_44_method_9_code 52 = .ok (.aload_n 0, 1) := by decide +kernel
theorem d17_53 : decode prog_44_method_9_code 53 = .ok (.getfield 36, 3) := by decide +kernel
theorem d17_56 : decode prog_44_method_9_code 56 = .ok (.invokevirtual 58, 3) := by decide +kernel
theorem d17_59 : decode prog_44_method_9_code 59 = .ok (.aload_n 0, 1) := by decide +kernel
theorem d17_60 : decode prog_44_method_9_code 60 = .ok (.getfield 36, 3) := by decide +kernel
theorem d17_63 : decode prog_44_method_9_code 63 = .ok (.invokevirtual 58, 3) := by decide +kernel
theorem d17_66 : decode prog_44_method_9_code 66 = .ok (.iconst 1, 1) := by decide +kernel
theorem d17_67 : decode prog_44_method_9_code 67 = .ok (.ishr, 1) := by decide +kernel
theorem d17_68 : decode prog_44_method_9_code 68 = .ok (.iadd, 1) := by decide +kernel
theorem d17_69 : decode prog_44_method_9_code 69 = .ok (.invokestatic 96, 3) := by decide +kernel
theorem d17_72 : decode prog_44_method_9_code 72 = .ok (.invokespecial 102, 3) := by decide +kernel
theorem d17_75 : decode prog_44_method_9_code 75 = .ok (.astore_n 3, 1) := by decide +kernel
theorem d17_76 : decode prog_44_method_9_code 76 = .ok (.aload_n 3, 1) := by decide +kernel
theorem d17_77 : decode prog_44_method_9_code 77 = .ok (.aload_n 0, 1) := by decide +kernel
theorem d17_78 : decode prog_44_method_9_code 78 = .ok (.getfield 36, 3) := by decide +kernel
theorem d17_81 : decode prog_44_method_9_code 81 = .ok (.invokevirtual 40, 3) := by decide +kernel
theorem d17_84 : decode prog_44_method_9_code 84 = .ok (.pop, 1) := by decide +kernel
theorem d17_85 : decode prog_44_method_9_code 85 = .ok (.aload_n 0, 1) := by decide +kernel
theorem d17_86 : decode prog_44_method_9_code 86 = .ok (.aload_n 3, 1) := by decide +kernel
theorem d17_87 : decode prog_44_method_9_code 87 = .ok (.putfield 36, 3) := by decide +kernel
theorem d17_90 : decode prog_44_method_9_code 90 = .ok (.return_, 1) := by decide +kernel
set_option maxRecDepth 65536 in
set_option maxHeartbeats 40000000 in
theorem own_mk0 (l : Launch) (Z : State) (a0 : Array Value) (hw : ∀ d ∈ tables_1, d.before a0 Z = true) (n0 : Nat) (h0 : Heap) (cs : Int32) (SC : Sta Z h0 ST "COMPACT_STRINGS" "Z" (.int cs)) (hcs : ¬ cs = (0 : Int32)) (hp : Heap) (hlo : hp.size ≤ h0.size) (hn0 : n0 ≤ hp.size) (b bd : Addr) (gb : n0 ≤ b) (k ch no mm : Nat) (G : Nat → Value) (E0 : Exa Z h0 b PB) (F3 : Fld Z h0 b PB "bounds" "[I" (.ref bd)) (F1 : Fld Z h0 b PB "count" "I" (.int (Int32.ofNat k))) (F2 : Fld Z h0 b PB "characters" "I" (.int (Int32.ofNat ch))) (hbd : bd < h0.size) (hch : ch ≤ 64) (hno : no ≤ 8) (hmm : mm ≤ 8) (T0 : Fld Z h0 b PB "text" "Ljava/lang/StringBuilder;" .null) (z : no = 0) :
    Met false l Z n0 (⟨PB, "makeRoom", "(I)V"⟩ : MethodName) prog_44_method_9_code 4 none ({ frames := 5, cells := 2, slots := 68, locals := 82 } : Room) #[(.ref b), (.int (Int32.ofNat mm))] h0 (fun r h => ∃ t vt cp g, r = none ∧ Keep h0 h [b] ∧ Fld Z h b PB "text" TD (.ref t) ∧ Fld Z h b PB "bounds" "[I" (.ref bd) ∧ Fld Z h b PB "count" "I" (.int (Int32.ofNat k)) ∧ Fld Z h b PB "characters" "I" (.int (Int32.ofNat ch)) ∧ Sb Z h t vt cp no g ∧ no + mm ≤ cp ∧ (∀ i, i < no → g i = G i) ∧ b ≠ t ∧ b ≠ vt ∧ bd ≠ t ∧ bd ≠ vt ∧ hp.size ≤ t ∧ hp.size ≤ vt) := by
  refine Met.of (plainFor_of_name pn_7) #[.val (.ref b), .val (.int (Int32.ofNat mm)), .unset, .unset] (fun m => by first | (simp [entryFrame, mkF, argsToLocals, Value.category]; done) | rfl) ?_
  intro p e s m below meth c C
  have hsz : n0 ≤ h0.size := Nat.le_trans hn0 hlo
  refine Wk.ald C d17_0 rfl rfl ?_
  refine Wk.getF C (wd hw 42) Via.refl T0 d17_1 ?_
  show Wk _ p l e _ s m _ below meth c n0 _ h0 0 0 (mkF m 4 #[.val (.ref b), .val (.int (Int32.ofNat mm)), .unset, .unset] [.null])
  refine Wk.st (g' := (mkF m 7 #[.val (.ref b), .val (.int (Int32.ofNat mm)), .unset, .unset] [])) (fun X t q => XS.ifnonnullNo X.here C.hx rfl (hb C.hby d17_4) rfl q) ?_
  refine Wk.ald C d17_7 rfl rfl ?_
  refine Wk.newO C (wd hw 107) (wd hw 108) (wd hw 109) d17_8 (by decide) (by decide) ?_
  intro h1 b2 g3 E4 A5 D6
  have ne7 : b ≠ b2 := Nat.ne_of_lt (Nat.lt_of_lt_of_le E0.lt (Nat.le_of_eq g3.symm))
  have ge8 : n0 ≤ b2 := Nat.le_trans hsz (Nat.le_of_eq g3.symm)
  have gz9 : h0.size ≤ b2 := Nat.le_trans (Nat.le_refl h0.size) (Nat.le_of_eq g3.symm)
  have F10 : Sta Z h1 ST "COMPACT_STRINGS" "Z" (.int cs) := SC.ext E4
  have F11 : Exa Z h1 b PB := E0.ext E4
  have F12 : Fld Z h1 b PB "text" "Ljava/lang/StringBuilder;" .null := T0.ext E4
  have F13 : Fld Z h1 b PB "bounds" "[I" (.ref bd) := F3.ext E4
  have F14 : Fld Z h1 b PB "count" "I" (.int (Int32.ofNat k)) := F1.ext E4
  have F15 : Fld Z h1 b PB "characters" "I" (.int (Int32.ofNat ch)) := F2.ext E4
  have sz16 : n0 ≤ h1.size := Nat.le_trans hsz E4.1
  have sy17 : h0.size ≤ h1.size := Nat.le_trans (Nat.le_refl h0.size) E4.1
  have K18 := (Keep.refl h0 [b]).ext E4
  have F19 : Fld Z h1 b2 AB "value" "[B" .null := D6 (Or.inl (wd hw 126)) (ty := (.array .byte)) (by decide)
  have F20 : Fld Z h1 b2 AB "coder" "B" (.int (0 : Int32)) := D6 (Or.inl (wd hw 128)) (ty := .byte) (by decide)
  have F21 : Fld Z h1 b2 AB "count" "I" (.int (0 : Int32)) := D6 (Or.inl (wd hw 140)) (ty := .int) (by decide)
  have F22 : Fld Z h1 b2 AB "maybeLatin1" "Z" (.int (0 : Int32)) := D6 (Or.inl (wd hw 355)) (ty := .boolean) (by decide)
  show Wk _ p l e _ s m _ below meth c n0 _ h1 1 4 (mkF m 11 #[.val (.ref b), .val (.int (Int32.ofNat mm)), .unset, .unset] [(.ref b2), (.ref b)])
  refine Wk.dupS C d17_11 rfl ?_
  refine Wk.ald C d17_12 rfl rfl ?_
  refine Wk.getF C (wd hw 25) Via.refl F15 d17_13 ?_
  show Wk _ p l e _ s m _ below meth c n0 _ h1 1 4 (mkF m 16 #[.val (.ref b), .val (.int (Int32.ofNat mm)), .unset, .unset] [(.int (Int32.ofNat ch)), (.ref b2), (.ref b2), (.ref b)])
  refine Wk.ild C d17_16 rfl ?_
  refine Wk.callS C (z := (⟨"java/lang/Math", "max", "(II)I"⟩ : MethodName)) (wd hw 110) (wd hw 111) (wd hw 112) (wd hw 113) (by decide) (own_max l Z a0 hw n0 h1 ch mm (by omega) (by omega)) (w := 3) (by decide) (by decide) pd_11 rfl (rest := [(.ref b2), (.ref b2), (.ref b)]) rfl rfl (Nat.le_of_eq rfl) (by decide) (by decide) d17_17 ?_
  rintro _ _ ⟨rfl, rfl⟩
  show Wk _ p l e _ s m _ below meth c n0 _ h1 1 4 (mkF m 20 #[.val (.ref b), .val (.int (Int32.ofNat mm)), .unset, .unset] [(.int (Int32.ofNat (max ch mm))), (.ref b2), (.ref b2), (.ref b)])
  refine Wk.callI C (z := (⟨SBN, "<init>", "(I)V"⟩ : MethodName)) rfl (wd hw 114) (wd hw 115) (wd hw 109) (wd hw 116) (by decide) (own_sinit l Z a0 hw n0 h1 cs F10 hcs sz16 b2 ge8 A5 F19 F20 F21 F22 (max ch mm) (by omega)) (w := 2) (by decide) (by decide) pd_2 rfl (rest := [(.ref b2), (.ref b)]) rfl rfl (Nat.le_of_eq rfl) (by decide) (by decide) d17_20 ?_
  rintro _ h23 ⟨voq25, rfl, K24, gq26, Sq27⟩
  show Wk _ p l e _ s m _ below meth c n0 _ h23 2 68 (mkF m 23 #[.val (.ref b), .val (.int (Int32.ofNat mm)), .unset, .unset] [(.ref b2), (.ref b)])
  have ne28 : b ≠ voq25 := Nat.ne_of_lt (Nat.lt_of_lt_of_le (F11).lt gq26)
  have ne29 : b2 ≠ voq25 := Nat.ne_of_lt (Nat.lt_of_lt_of_le (A5).lt gq26)
  have ge30 : n0 ≤ voq25 := Nat.le_trans sz16 gq26
  have gz31 : h0.size ≤ voq25 := Nat.le_trans sy17 gq26
  have F32 : Sta Z h23 ST "COMPACT_STRINGS" "Z" (.int cs) := sta_keep F10 K24 (nvS (exa_ns A5) nv0)
  have F33 : Exa Z h23 b PB := F11.keep K24
  have F34 : Fld Z h23 b PB "text" "Ljava/lang/StringBuilder;" .null := F12.keep K24 (nmS ne7 nm0)
  have F35 : Fld Z h23 b PB "bounds" "[I" (.ref bd) := F13.keep K24 (nmS ne7 nm0)
  have F36 : Fld Z h23 b PB "count" "I" (.int (Int32.ofNat k)) := F14.keep K24 (nmS ne7 nm0)
  have F37 : Fld Z h23 b PB "characters" "I" (.int (Int32.ofNat ch)) := F15.keep K24 (nmS ne7 nm0)
  have sz38 : n0 ≤ h23.size := Nat.le_trans sz16 K24.1
  have sy39 : h0.size ≤ h23.size := Nat.le_trans sy17 K24.1
  have K40 := K18.trans K24 (nvS (Or.inr gz9) nv0)
  refine Wk.putF C (wd hw 42) Via.refl F34 F33 (Or.inl (wd hw 43)) (wd hw 13) (ty := (.object SBN)) (by decide) (v' := (.ref b2)) rfl rfl gb d17_23 ?_
  intro h41 W42
  have F43 : Fld Z h41 b PB "text" "Ljava/lang/StringBuilder;" (.ref b2) := F34.same W42
  have F44 : Sta Z h41 ST "COMPACT_STRINGS" "Z" (.int cs) := F32.wr W42
  have F45 : Exa Z h41 b PB := F33.wr W42
  have F46 : Fld Z h41 b PB "bounds" "[I" (.ref bd) := F35.other W42 (Or.inr (slot_ne (Or.inl (wd hw 24)) (Or.inl (wd hw 43)) (by decide) (t := (.array .int)) (t' := (.object SBN)) (by decide) (by decide)))
  have F47 : Fld Z h41 b PB "count" "I" (.int (Int32.ofNat k)) := F36.other W42 (Or.inr (slot_ne (Or.inl (wd hw 33)) (Or.inl (wd hw 43)) (by decide) (t := .int) (t' := (.object SBN)) (by decide) (by decide)))
  have F48 : Fld Z h41 b PB "characters" "I" (.int (Int32.ofNat ch)) := F37.other W42 (Or.inr (slot_ne (Or.inr (wd hw 26)) (Or.inl (wd hw 43)) (by decide) (t := .int) (t' := (.object SBN)) (by decide) (by decide)))
  have F49 : Exa Z h41 b2 SBN := Sq27.1.wr W42
  have F50 : Fld Z h41 b2 AB "value" "[B" (.ref voq25) := Sq27.2.1.other W42 (Or.inl (Ne.symm ne7))
  have F51 : Fld Z h41 b2 AB "coder" "B" (.int (0 : Int32)) := Sq27.2.2.1.other W42 (Or.inl (Ne.symm ne7))
  have F52 : Fld Z h41 b2 AB "count" "I" (.int (Int32.ofNat 0)) := Sq27.2.2.2.1.other W42 (Or.inl (Ne.symm ne7))
  have F53 : Fld Z h41 b2 AB "maybeLatin1" "Z" (.int (0 : Int32)) := Sq27.2.2.2.2.1.other W42 (Or.inl (Ne.symm ne7))
  have F54 : Fa Z h41 voq25 .byte (max ch mm) (fun _ => .int 0) := Sq27.2.2.2.2.2.1.other W42 (Ne.symm ne28)
  have F55 : Exa Z h41 voq25 "[B" := Sq27.2.2.2.2.2.2.1.wr W42
  have sz56 : n0 ≤ h41.size := Nat.le_trans sz38 (Nat.le_of_eq W42.size.symm)
  have sy57 : h0.size ≤ h41.size := Nat.le_trans sy39 (Nat.le_of_eq W42.size.symm)
  have K58 := K40.wr W42 (Or.inl (by simp))
  show Wk _ p l e _ s m _ below meth c n0 _ h41 2 68 (mkF m 26 #[.val (.ref b), .val (.int (Int32.ofNat mm)), .unset, .unset] [])
  refine Wk.ald C d17_26 rfl rfl ?_
  refine Wk.getF C (wd hw 42) Via.refl F43 d17_27 ?_
  show Wk _ p l e _ s m _ below meth c n0 _ h41 2 68 (mkF m 30 #[.val (.ref b), .val (.int (Int32.ofNat mm)), .unset, .unset] [(.ref b2)])
  refine Wk.callV C (x := (⟨SBN, "length", "()I"⟩ : MethodName)) (z := (⟨SBN, "length", "()I"⟩ : MethodName)) (K := SBN) (wd hw 129) (wd hw 130) (wd hw 132) (wd hw 131) (wd hw 109) (wd hw 133) (by decide) (fun s' hZ' => notFace_of_selects (args := #[]) (mvT hZ' (wd hw 132))) F49 (own_slen l Z a0 hw n0 h41 b2 voq25 (max ch mm) 0 (fun _ => .int 0) (show Sb Z h41 b2 voq25 (max ch mm) 0 (fun _ => .int 0) from ⟨F49, F50, F51, F52, F53, F54, F55, ne29, Sq27.2.2.2.2.2.2.2.2.1, Sq27.2.2.2.2.2.2.2.2.2.1, Sq27.2.2.2.2.2.2.2.2.2.2⟩)) (w := 0) (by decide) (by decide) pd_1 rfl (rest := []) rfl rfl (Nat.le_of_eq rfl) (by decide) (by decide) d17_30 ?_
  rintro _ _ ⟨rfl, rfl⟩
  show Wk _ p l e _ s m _ below meth c n0 _ h41 2 68 (mkF m 33 #[.val (.ref b), .val (.int (Int32.ofNat mm)), .unset, .unset] [(.int (Int32.ofNat 0))])
  refine Wk.ild C d17_33 rfl ?_
  refine Wk.st (g' := (mkF m 35 #[.val (.ref b), .val (.int (Int32.ofNat mm)), .unset, .unset] [(.int ((Int32.ofNat 0) + (Int32.ofNat mm)))])) (fun X t q => XS.iadd X.here C.hx rfl (hb C.hby d17_34) rfl q) ?_
  rw [show ((Int32.ofNat 0) + (Int32.ofNat mm)) = (Int32.ofNat (0 + mm)) from add32 (by omega)]
  show Wk _ p l e _ s m _ below meth c n0 _ h41 2 68 (mkF m 35 #[.val (.ref b), .val (.int (Int32.ofNat mm)), .unset, .unset] [(.int (Int32.ofNat (0 + mm)))])
  refine Wk.st (g' := (mkF m 36 #[.val (.ref b), .val (.int (Int32.ofNat mm)), .val (.int (Int32.ofNat (0 + mm))), .unset] [])) (fun X t q => XS.istoreN X.here C.hx rfl (hb C.hby d17_35) rfl (l' := #[.val (.ref b), .val (.int (Int32.ofNat mm)), .val (.int (Int32.ofNat (0 + mm))), .unset]) rfl q) ?_
  refine Wk.ild C d17_36 rfl ?_
  refine Wk.ald C d17_37 rfl rfl ?_
  refine Wk.getF C (wd hw 42) Via.refl F43 d17_38 ?_
  show Wk _ p l e _ s m _ below meth c n0 _ h41 2 68 (mkF m 41 #[.val (.ref b), .val (.int (Int32.ofNat mm)), .val (.int (Int32.ofNat (0 + mm))), .unset] [(.ref b2), (.int (Int32.ofNat (0 + mm)))])
  refine Wk.callV C (x := (⟨SBN, "capacity", "()I"⟩ : MethodName)) (z := (⟨SBN, "capacity", "()I"⟩ : MethodName)) (K := SBN) (wd hw 141) (wd hw 142) (wd hw 144) (wd hw 143) (wd hw 109) (wd hw 145) (by decide) (fun s' hZ' => notFace_of_selects (args := #[]) (mvT hZ' (wd hw 144))) F49 (own_scap l Z a0 hw n0 h41 b2 voq25 (max ch mm) 0 (fun _ => .int 0) (show Sb Z h41 b2 voq25 (max ch mm) 0 (fun _ => .int 0) from ⟨F49, F50, F51, F52, F53, F54, F55, ne29, Sq27.2.2.2.2.2.2.2.2.1, Sq27.2.2.2.2.2.2.2.2.2.1, Sq27.2.2.2.2.2.2.2.2.2.2⟩)) (w := 1) (by decide) (by decide) pd_1 rfl (rest := [(.int (Int32.ofNat (0 + mm)))]) rfl rfl (Nat.le_of_eq rfl) (by decide) (by decide) d17_41 ?_
  rintro _ _ ⟨rfl, rfl⟩
  show Wk _ p l e _ s m _ below meth c n0 _ h41 2 68 (mkF m 44 #[.val (.ref b), .val (.int (Int32.ofNat mm)), .val (.int (Int32.ofNat (0 + mm))), .unset] [(.int (Int32.ofNat (max ch mm))), (.int (Int32.ofNat (0 + mm)))])
  refine Wk.icY C (pc' := 90) d17_44 (XT.ii_le_t (mt (lt32 (by omega) (by omega)).mp (by omega))) (by decide) (by decide) ?_
  exact Wk.retN0 C rfl d17_90 (by decide) (by decide) ⟨b2, voq25, (max ch mm), (fun _ => .int 0), rfl, K58, F43, F46, F47, F48, Sb.cast z.symm (show Sb Z h41 b2 voq25 (max ch mm) 0 (fun _ => .int 0) from ⟨F49, F50, F51, F52, F53, F54, F55, ne29, Sq27.2.2.2.2.2.2.2.2.1, Sq27.2.2.2.2.2.2.2.2.2.1, Sq27.2.2.2.2.2.2.2.2.2.2⟩), by omega, fun i hi => absurd hi (by omega), ne7, ne28, Nat.ne_of_lt (Nat.lt_of_lt_of_le hbd gz9), Nat.ne_of_lt (Nat.lt_of_lt_of_le hbd gz31), Nat.le_trans hlo gz9, Nat.le_trans hlo gz31⟩
set_option maxRecDepth 65536 in
set_option maxHeartbeats 40000000 in
theorem own_mk1 (l : Launch) (Z : State) (a0 : Array Value) (hw : ∀ d ∈ tables_1, d.before a0 Z = true) (n0 : Nat) (h0 : Heap) (cs : Int32) (SC : Sta Z h0 ST "COMPACT_STRINGS" "Z" (.int cs)) (hcs : ¬ cs = (0 : Int32)) (hp : Heap) (hlo : hp.size ≤ h0.size) (hn0 : n0 ≤ hp.size) (b bd : Addr) (gb : n0 ≤ b) (k ch no mm : Nat) (G : Nat → Value) (E0 : Exa Z h0 b PB) (F3 : Fld Z h0 b PB "bounds" "[I" (.ref bd)) (F1 : Fld Z h0 b PB "count" "I" (.int (Int32.ofNat k))) (F2 : Fld Z h0 b PB "characters" "I" (.int (Int32.ofNat ch))) (hbd : bd < h0.size) (hch : ch ≤ 64) (hno : no ≤ 8) (hmm : mm ≤ 8) (t vt : Addr) (cp : Nat) (g : Nat → Value) (T0 : Fld Z h0 b PB "text" "Ljava/lang/StringBuilder;" (.ref t)) (B : Sb Z h0 t vt cp no g) (hG : ∀ i, i < no → g i = G i) (nbt : b ≠ t) (nbv : b ≠ vt) (ndt : bd ≠ t) (ndv : bd ≠ vt) (gt : hp.size ≤ t) (gvt : hp.size ≤ vt) :
    Met false l Z n0 (⟨PB, "makeRoom", "(I)V"⟩ : MethodName) prog_44_method_9_code 4 none ({ frames := 5, cells := 2, slots := 68, locals := 82 } : Room) #[(.ref b), (.int (Int32.ofNat mm))] h0 (fun r h => ∃ t vt cp g, r = none ∧ Keep h0 h [b] ∧ Fld Z h b PB "text" TD (.ref t) ∧ Fld Z h b PB "bounds" "[I" (.ref bd) ∧ Fld Z h b PB "count" "I" (.int (Int32.ofNat k)) ∧ Fld Z h b PB "characters" "I" (.int (Int32.ofNat ch)) ∧ Sb Z h t vt cp no g ∧ no + mm ≤ cp ∧ (∀ i, i < no → g i = G i) ∧ b ≠ t ∧ b ≠ vt ∧ bd ≠ t ∧ bd ≠ vt ∧ hp.size ≤ t ∧ hp.size ≤ vt) := by
  refine Met.of (plainFor_of_name pn_7) #[.val (.ref b), .val (.int (Int32.ofNat mm)), .unset, .unset] (fun m => by first | (simp [entryFrame, mkF, argsToLocals, Value.category]; done) | rfl) ?_
  intro p e s m below meth c C
  have hsz : n0 ≤ h0.size := Nat.le_trans hn0 hlo
  have hB := B.2.2.2.2.2.2.2.2.2
  refine Wk.ald C d17_0 rfl rfl ?_
  refine Wk.getF C (wd hw 42) Via.refl T0 d17_1 ?_
  show Wk _ p l e _ s m _ below meth c n0 _ h0 0 0 (mkF m 4 #[.val (.ref b), .val (.int (Int32.ofNat mm)), .unset, .unset] [(.ref t)])
  refine Wk.st (g' := (mkF m 26 #[.val (.ref b), .val (.int (Int32.ofNat mm)), .unset, .unset] [])) (fun X t q => XS.ifnonnullYes X.here C.hx rfl (pc0 := 4) (pc' := 26) rfl (hb C.hby d17_4) rfl (by decide) (by decide) q) ?_
  refine Wk.ald C d17_26 rfl rfl ?_
  refine Wk.getF C (wd hw 42) Via.refl T0 d17_27 ?_
  show Wk _ p l e _ s m _ below meth c n0 _ h0 0 0 (mkF m 30 #[.val (.ref b), .val (.int (Int32.ofNat mm)), .unset, .unset] [(.ref t)])
  refine Wk.callV C (x := (⟨SBN, "length", "()I"⟩ : MethodName)) (z := (⟨SBN, "length", "()I"⟩ : MethodName)) (K := SBN) (wd hw 129) (wd hw 130) (wd hw 132) (wd hw 131) (wd hw 109) (wd hw 133) (by decide) (fun s' hZ' => notFace_of_selects (args := #[]) (mvT hZ' (wd hw 132))) B.1 (own_slen l Z a0 hw n0 h0 t vt cp no g (show Sb Z h0 t vt cp no g from ⟨B.1, B.2.1, B.2.2.1, B.2.2.2.1, B.2.2.2.2.1, B.2.2.2.2.2.1, B.2.2.2.2.2.2.1, B.2.2.2.2.2.2.2.1, B.2.2.2.2.2.2.2.2.1, B.2.2.2.2.2.2.2.2.2.1, B.2.2.2.2.2.2.2.2.2.2⟩)) (w := 0) (by decide) (by decide) pd_1 rfl (rest := []) rfl rfl (Nat.le_of_eq rfl) (by decide) (by decide) d17_30 ?_
  rintro _ _ ⟨rfl, rfl⟩
  show Wk _ p l e _ s m _ below meth c n0 _ h0 0 0 (mkF m 33 #[.val (.ref b), .val (.int (Int32.ofNat mm)), .unset, .unset] [(.int (Int32.ofNat no))])
  refine Wk.ild C d17_33 rfl ?_
  refine Wk.st (g' := (mkF m 35 #[.val (.ref b), .val (.int (Int32.ofNat mm)), .unset, .unset] [(.int ((Int32.ofNat no) + (Int32.ofNat mm)))])) (fun X t q => XS.iadd X.here C.hx rfl (hb C.hby d17_34) rfl q) ?_
  rw [show ((Int32.ofNat no) + (Int32.ofNat mm)) = (Int32.ofNat (no + mm)) from add32 (by omega)]
  show Wk _ p l e _ s m _ below meth c n0 _ h0 0 0 (mkF m 35 #[.val (.ref b), .val (.int (Int32.ofNat mm)), .unset, .unset] [(.int (Int32.ofNat (no + mm)))])
  refine Wk.st (g' := (mkF m 36 #[.val (.ref b), .val (.int (Int32.ofNat mm)), .val (.int (Int32.ofNat (no + mm))), .unset] [])) (fun X t q => XS.istoreN X.here C.hx rfl (hb C.hby d17_35) rfl (l' := #[.val (.ref b), .val (.int (Int32.ofNat mm)), .val (.int (Int32.ofNat (no + mm))), .unset]) rfl q) ?_
  refine Wk.ild C d17_36 rfl ?_
  refine Wk.ald C d17_37 rfl rfl ?_
  refine Wk.getF C (wd hw 42) Via.refl T0 d17_38 ?_
  show Wk _ p l e _ s m _ below meth c n0 _ h0 0 0 (mkF m 41 #[.val (.ref b), .val (.int (Int32.ofNat mm)), .val (.int (Int32.ofNat (no + mm))), .unset] [(.ref t), (.int (Int32.ofNat (no + mm)))])
  refine Wk.callV C (x := (⟨SBN, "capacity", "()I"⟩ : MethodName)) (z := (⟨SBN, "capacity", "()I"⟩ : MethodName)) (K := SBN) (wd hw 141) (wd hw 142) (wd hw 144) (wd hw 143) (wd hw 109) (wd hw 145) (by decide) (fun s' hZ' => notFace_of_selects (args := #[]) (mvT hZ' (wd hw 144))) B.1 (own_scap l Z a0 hw n0 h0 t vt cp no g (show Sb Z h0 t vt cp no g from ⟨B.1, B.2.1, B.2.2.1, B.2.2.2.1, B.2.2.2.2.1, B.2.2.2.2.2.1, B.2.2.2.2.2.2.1, B.2.2.2.2.2.2.2.1, B.2.2.2.2.2.2.2.2.1, B.2.2.2.2.2.2.2.2.2.1, B.2.2.2.2.2.2.2.2.2.2⟩)) (w := 1) (by decide) (by decide) pd_1 rfl (rest := [(.int (Int32.ofNat (no + mm)))]) rfl rfl (Nat.le_of_eq rfl) (by decide) (by decide) d17_41 ?_
  rintro _ _ ⟨rfl, rfl⟩
  show Wk _ p l e _ s m _ below meth c n0 _ h0 0 0 (mkF m 44 #[.val (.ref b), .val (.int (Int32.ofNat mm)), .val (.int (Int32.ofNat (no + mm))), .unset] [(.int (Int32.ofNat cp)), (.int (Int32.ofNat (no + mm)))])
  by_cases hb1 : (Int32.ofNat cp) < (Int32.ofNat (no + mm))
  · skip
    refine Wk.icN C d17_44 (XT.ii_le_f hb1) ?_
    refine Wk.newO C (wd hw 107) (wd hw 108) (wd hw 109) d17_47 (by decide) (by decide) ?_
    intro h2 b3 g4 E5 A6 D7
    have ne8 : b ≠ b3 := Nat.ne_of_lt (Nat.lt_of_lt_of_le E0.lt (Nat.le_of_eq g4.symm))
    have ne9 : t ≠ b3 := Nat.ne_of_lt (Nat.lt_of_lt_of_le B.1.lt (Nat.le_of_eq g4.symm))
    have ne10 : vt ≠ b3 := Nat.ne_of_lt (Nat.lt_of_lt_of_le B.2.2.2.2.2.1.lt (Nat.le_of_eq g4.symm))
    have ge11 : n0 ≤ b3 := Nat.le_trans hsz (Nat.le_of_eq g4.symm)
    have gz12 : h0.size ≤ b3 := Nat.le_trans (Nat.le_refl h0.size) (Nat.le_of_eq g4.symm)
    have F13 : Sta Z h2 ST "COMPACT_STRINGS" "Z" (.int cs) := SC.ext E5
    have F14 : Exa Z h2 b PB := E0.ext E5
    have F15 : Fld Z h2 b PB "text" "Ljava/lang/StringBuilder;" (.ref t) := T0.ext E5
    have F16 : Fld Z h2 b PB "bounds" "[I" (.ref bd) := F3.ext E5
    have F17 : Fld Z h2 b PB "count" "I" (.int (Int32.ofNat k)) := F1.ext E5
    have F18 : Fld Z h2 b PB "characters" "I" (.int (Int32.ofNat ch)) := F2.ext E5
    have F19 : Exa Z h2 t SBN := B.1.ext E5
    have F20 : Fld Z h2 t AB "value" "[B" (.ref vt) := B.2.1.ext E5
    have F21 : Fld Z h2 t AB "coder" "B" (.int (0 : Int32)) := B.2.2.1.ext E5
    have F22 : Fld Z h2 t AB "count" "I" (.int (Int32.ofNat no)) := B.2.2.2.1.ext E5
    have F23 : Fld Z h2 t AB "maybeLatin1" "Z" (.int (0 : Int32)) := B.2.2.2.2.1.ext E5
    have F24 : Fa Z h2 vt .byte cp g := B.2.2.2.2.2.1.ext E5
    have F25 : Exa Z h2 vt "[B" := B.2.2.2.2.2.2.1.ext E5
    have sz26 : n0 ≤ h2.size := Nat.le_trans hsz E5.1
    have sy27 : h0.size ≤ h2.size := Nat.le_trans (Nat.le_refl h0.size) E5.1
    have K28 := (Keep.refl h0 [b]).ext E5
    have F29 : Fld Z h2 b3 AB "value" "[B" .null := D7 (Or.inl (wd hw 126)) (ty := (.array .byte)) (by decide)
    have F30 : Fld Z h2 b3 AB "coder" "B" (.int (0 : Int32)) := D7 (Or.inl (wd hw 128)) (ty := .byte) (by decide)
    have F31 : Fld Z h2 b3 AB "count" "I" (.int (0 : Int32)) := D7 (Or.inl (wd hw 140)) (ty := .int) (by decide)
    have F32 : Fld Z h2 b3 AB "maybeLatin1" "Z" (.int (0 : Int32)) := D7 (Or.inl (wd hw 355)) (ty := .boolean) (by decide)
    show Wk _ p l e _ s m _ below meth c n0 _ h2 1 4 (mkF m 50 #[.val (.ref b), .val (.int (Int32.ofNat mm)), .val (.int (Int32.ofNat (no + mm))), .unset] [(.ref b3)])
    refine Wk.dupS C d17_50 rfl ?_
    refine Wk.ild C d17_51 rfl ?_
    refine Wk.ald C d17_52 rfl rfl ?_
    refine Wk.getF C (wd hw 42) Via.refl F15 d17_53 ?_
    show Wk _ p l e _ s m _ below meth c n0 _ h2 1 4 (mkF m 56 #[.val (.ref b), .val (.int (Int32.ofNat mm)), .val (.int (Int32.ofNat (no + mm))), .unset] [(.ref t), (.int (Int32.ofNat (no + mm))), (.ref b3), (.ref b3)])
    refine Wk.callV C (x := (⟨SBN, "length", "()I"⟩ : MethodName)) (z := (⟨SBN, "length", "()I"⟩ : MethodName)) (K := SBN) (wd hw 129) (wd hw 130) (wd hw 132) (wd hw 131) (wd hw 109) (wd hw 133) (by decide) (fun s' hZ' => notFace_of_selects (args := #[]) (mvT hZ' (wd hw 132))) F19 (own_slen l Z a0 hw n0 h2 t vt cp no g (show Sb Z h2 t vt cp no g from ⟨F19, F20, F21, F22, F23, F24, F25, B.2.2.2.2.2.2.2.1, B.2.2.2.2.2.2.2.2.1, B.2.2.2.2.2.2.2.2.2.1, B.2.2.2.2.2.2.2.2.2.2⟩)) (w := 3) (by decide) (by decide) pd_1 rfl (rest := [(.int (Int32.ofNat (no + mm))), (.ref b3), (.ref b3)]) rfl rfl (Nat.le_of_eq rfl) (by decide) (by decide) d17_56 ?_
    rintro _ _ ⟨rfl, rfl⟩
    show Wk _ p l e _ s m _ below meth c n0 _ h2 1 4 (mkF m 59 #[.val (.ref b), .val (.int (Int32.ofNat mm)), .val (.int (Int32.ofNat (no + mm))), .unset] [(.int (Int32.ofNat no)), (.int (Int32.ofNat (no + mm))), (.ref b3), (.ref b3)])
    refine Wk.ald C d17_59 rfl rfl ?_
    refine Wk.getF C (wd hw 42) Via.refl F15 d17_60 ?_
    show Wk _ p l e _ s m _ below meth c n0 _ h2 1 4 (mkF m 63 #[.val (.ref b), .val (.int (Int32.ofNat mm)), .val (.int (Int32.ofNat (no + mm))), .unset] [(.ref t), (.int (Int32.ofNat no)), (.int (Int32.ofNat (no + mm))), (.ref b3), (.ref b3)])
    refine Wk.callV C (x := (⟨SBN, "length", "()I"⟩ : MethodName)) (z := (⟨SBN, "length", "()I"⟩ : MethodName)) (K := SBN) (wd hw 129) (wd hw 130) (wd hw 132) (wd hw 131) (wd hw 109) (wd hw 133) (by decide) (fun s' hZ' => notFace_of_selects (args := #[]) (mvT hZ' (wd hw 132))) F19 (own_slen l Z a0 hw n0 h2 t vt cp no g (show Sb Z h2 t vt cp no g from ⟨F19, F20, F21, F22, F23, F24, F25, B.2.2.2.2.2.2.2.1, B.2.2.2.2.2.2.2.2.1, B.2.2.2.2.2.2.2.2.2.1, B.2.2.2.2.2.2.2.2.2.2⟩)) (w := 4) (by decide) (by decide) pd_1 rfl (rest := [(.int (Int32.ofNat no)), (.int (Int32.ofNat (no + mm))), (.ref b3), (.ref b3)]) rfl rfl (Nat.le_of_eq rfl) (by decide) (by decide) d17_63 ?_
    rintro _ _ ⟨rfl, rfl⟩
    show Wk _ p l e _ s m _ below meth c n0 _ h2 1 4 (mkF m 66 #[.val (.ref b), .val (.int (Int32.ofNat mm)), .val (.int (Int32.ofNat (no + mm))), .unset] [(.int (Int32.ofNat no)), (.int (Int32.ofNat no)), (.int (Int32.ofNat (no + mm))), (.ref b3), (.ref b3)])
    refine Wk.st (g' := (mkF m 67 #[.val (.ref b), .val (.int (Int32.ofNat mm)), .val (.int (Int32.ofNat (no + mm))), .unset] [(.int (1 : Int32)), (.int (Int32.ofNat no)), (.int (Int32.ofNat no)), (.int (Int32.ofNat (no + mm))), (.ref b3), (.ref b3)])) (fun X t q => XS.iconst X.here C.hx rfl (hb C.hby d17_66) q) ?_
    refine Wk.st (g' := (mkF m 68 #[.val (.ref b), .val (.int (Int32.ofNat mm)), .val (.int (Int32.ofNat (no + mm))), .unset] [(.int ((Int32.ofNat no) >>> ((1 : Int32) &&& 31))), (.int (Int32.ofNat no)), (.int (Int32.ofNat (no + mm))), (.ref b3), (.ref b3)])) (fun X t q => XS.ishr X.here C.hx rfl (hb C.hby d17_67) rfl q) ?_
    rw [show ((Int32.ofNat no) >>> ((1 : Int32) &&& 31)) = (Int32.ofNat (no / 2)) from half32 (by omega)]
    show Wk _ p l e _ s m _ below meth c n0 _ h2 1 4 (mkF m 68 #[.val (.ref b), .val (.int (Int32.ofNat mm)), .val (.int (Int32.ofNat (no + mm))), .unset] [(.int (Int32.ofNat (no / 2))), (.int (Int32.ofNat no)), (.int (Int32.ofNat (no + mm))), (.ref b3), (.ref b3)])
    refine Wk.st (g' := (mkF m 69 #[.val (.ref b), .val (.int (Int32.ofNat mm)), .val (.int (Int32.ofNat (no + mm))), .unset] [(.int ((Int32.ofNat no) + (Int32.ofNat (no / 2)))), (.int (Int32.ofNat (no + mm))), (.ref b3), (.ref b3)])) (fun X t q => XS.iadd X.here C.hx rfl (hb C.hby d17_68) rfl q) ?_
    rw [show ((Int32.ofNat no) + (Int32.ofNat (no / 2))) = (Int32.ofNat (no + no / 2)) from add32 (by omega)]
    show Wk _ p l e _ s m _ below meth c n0 _ h2 1 4 (mkF m 69 #[.val (.ref b), .val (.int (Int32.ofNat mm)), .val (.int (Int32.ofNat (no + mm))), .unset] [(.int (Int32.ofNat (no + no / 2))), (.int (Int32.ofNat (no + mm))), (.ref b3), (.ref b3)])
    refine Wk.callS C (z := (⟨"java/lang/Math", "max", "(II)I"⟩ : MethodName)) (wd hw 110) (wd hw 111) (wd hw 112) (wd hw 113) (by decide) (own_max l Z a0 hw n0 h2 (no + mm) (no + no / 2) (by omega) (by omega)) (w := 2) (by decide) (by decide) pd_11 rfl (rest := [(.ref b3), (.ref b3)]) rfl rfl (Nat.le_of_eq rfl) (by decide) (by decide) d17_69 ?_
    rintro _ _ ⟨rfl, rfl⟩
    show Wk _ p l e _ s m _ below meth c n0 _ h2 1 4 (mkF m 72 #[.val (.ref b), .val (.int (Int32.ofNat mm)), .val (.int (Int32.ofNat (no + mm))), .unset] [(.int (Int32.ofNat (max (no + mm) (no + no / 2)))), (.ref b3), (.ref b3)])
    refine Wk.callI C (z := (⟨SBN, "<init>", "(I)V"⟩ : MethodName)) rfl (wd hw 114) (wd hw 115) (wd hw 109) (wd hw 116) (by decide) (own_sinit l Z a0 hw n0 h2 cs F13 hcs sz26 b3 ge11 A6 F29 F30 F31 F32 (max (no + mm) (no + no / 2)) (by omega)) (w := 1) (by decide) (by decide) pd_2 rfl (rest := [(.ref b3)]) rfl rfl (Nat.le_of_eq rfl) (by decide) (by decide) d17_72 ?_
    rintro _ h33 ⟨voq35, rfl, K34, gq36, Sq37⟩
    show Wk _ p l e _ s m _ below meth c n0 _ h33 2 68 (mkF m 75 #[.val (.ref b), .val (.int (Int32.ofNat mm)), .val (.int (Int32.ofNat (no + mm))), .unset] [(.ref b3)])
    have ne38 : b ≠ voq35 := Nat.ne_of_lt (Nat.lt_of_lt_of_le (F14).lt gq36)
    have ne39 : t ≠ voq35 := Nat.ne_of_lt (Nat.lt_of_lt_of_le (F19).lt gq36)
    have ne40 : vt ≠ voq35 := Nat.ne_of_lt (Nat.lt_of_lt_of_le (F24).lt gq36)
    have ne41 : b3 ≠ voq35 := Nat.ne_of_lt (Nat.lt_of_lt_of_le (A6).lt gq36)
    have ge42 : n0 ≤ voq35 := Nat.le_trans sz26 gq36
    have gz43 : h0.size ≤ voq35 := Nat.le_trans sy27 gq36
    have F44 : Sta Z h33 ST "COMPACT_STRINGS" "Z" (.int cs) := sta_keep F13 K34 (nvS (exa_ns A6) nv0)
    have F45 : Exa Z h33 b PB := F14.keep K34
    have F46 : Fld Z h33 b PB "text" "Ljava/lang/StringBuilder;" (.ref t) := F15.keep K34 (nmS ne8 nm0)
    have F47 : Fld Z h33 b PB "bounds" "[I" (.ref bd) := F16.keep K34 (nmS ne8 nm0)
    have F48 : Fld Z h33 b PB "count" "I" (.int (Int32.ofNat k)) := F17.keep K34 (nmS ne8 nm0)
    have F49 : Fld Z h33 b PB "characters" "I" (.int (Int32.ofNat ch)) := F18.keep K34 (nmS ne8 nm0)
    have F50 : Exa Z h33 t SBN := F19.keep K34
    have F51 : Fld Z h33 t AB "value" "[B" (.ref vt) := F20.keep K34 (nmS ne9 nm0)
    have F52 : Fld Z h33 t AB "coder" "B" (.int (0 : Int32)) := F21.keep K34 (nmS ne9 nm0)
    have F53 : Fld Z h33 t AB "count" "I" (.int (Int32.ofNat no)) := F22.keep K34 (nmS ne9 nm0)
    have F54 : Fld Z h33 t AB "maybeLatin1" "Z" (.int (0 : Int32)) := F23.keep K34 (nmS ne9 nm0)
    have F55 : Fa Z h33 vt .byte cp g := F24.keep K34 (nmS ne10 nm0)
    have F56 : Exa Z h33 vt "[B" := F25.keep K34
    have sz57 : n0 ≤ h33.size := Nat.le_trans sz26 K34.1
    have sy58 : h0.size ≤ h33.size := Nat.le_trans sy27 K34.1
    have K59 := K28.trans K34 (nvS (Or.inr gz12) nv0)
    refine Wk.st (g' := (mkF m 76 #[.val (.ref b), .val (.int (Int32.ofNat mm)), .val (.int (Int32.ofNat (no + mm))), .val (.ref b3)] [])) (fun X t q => XS.astoreN X.here C.hx rfl (hb C.hby d17_75) rfl rfl (l' := #[.val (.ref b), .val (.int (Int32.ofNat mm)), .val (.int (Int32.ofNat (no + mm))), .val (.ref b3)]) rfl q) ?_
    refine Wk.ald C d17_76 rfl rfl ?_
    refine Wk.ald C d17_77 rfl rfl ?_
    refine Wk.getF C (wd hw 42) Via.refl F46 d17_78 ?_
    show Wk _ p l e _ s m _ below meth c n0 _ h33 2 68 (mkF m 81 #[.val (.ref b), .val (.int (Int32.ofNat mm)), .val (.int (Int32.ofNat (no + mm))), .val (.ref b3)] [(.ref t), (.ref b3)])
    refine Wk.callV C (x := (⟨SBN, "append", "(Ljava/lang/CharSequence;)Ljava/lang/StringBuilder;"⟩ : MethodName)) (z := (⟨SBN, "append", "(Ljava/lang/CharSequence;)Ljava/lang/StringBuilder;"⟩ : MethodName)) (K := SBN) (wd hw 150) (wd hw 151) (wd hw 153) (wd hw 152) (wd hw 109) (wd hw 154) (by decide) (fun s' hZ' => notFace_of_selects (args := #[]) (mvT hZ' (wd hw 153))) Sq37.1 (own_scs2 l Z a0 hw n0 h33 cs F44 hcs t vt cp no g (show Sb Z h33 t vt cp no g from ⟨F50, F51, F52, F53, F54, F55, F56, B.2.2.2.2.2.2.2.1, B.2.2.2.2.2.2.2.2.1, B.2.2.2.2.2.2.2.2.2.1, B.2.2.2.2.2.2.2.2.2.2⟩) b3 voq35 (max (no + mm) (no + no / 2)) 0 (fun _ => .int 0) (show Sb Z h33 b3 voq35 (max (no + mm) (no + no / 2)) 0 (fun _ => .int 0) from ⟨Sq37.1, Sq37.2.1, Sq37.2.2.1, Sq37.2.2.2.1, Sq37.2.2.2.2.1, Sq37.2.2.2.2.2.1, Sq37.2.2.2.2.2.2.1, ne41, Sq37.2.2.2.2.2.2.2.2.1, Sq37.2.2.2.2.2.2.2.2.2.1, Sq37.2.2.2.2.2.2.2.2.2.2⟩) ne9 ne39 ne10 ne40 ge11 ge42 (by omega)) (w := 0) (by decide) (by decide) pd_19 rfl (rest := []) rfl rfl (Nat.le_of_eq rfl) (by decide) (by decide) d17_81 ?_
    rintro _ h60 ⟨rfl, K61, Sq62⟩
    show Wk _ p l e _ s m _ below meth c n0 _ h60 2 68 (mkF m 84 #[.val (.ref b), .val (.int (Int32.ofNat mm)), .val (.int (Int32.ofNat (no + mm))), .val (.ref b3)] [(.ref b3)])
    have F63 : Sta Z h60 ST "COMPACT_STRINGS" "Z" (.int cs) := sta_keep F44 K61 (nvS (exa_ns Sq37.1) (nvS (exa_ns Sq37.2.2.2.2.2.2.1) nv0))
    have F64 : Exa Z h60 b PB := F45.keep K61
    have F65 : Fld Z h60 b PB "text" "Ljava/lang/StringBuilder;" (.ref t) := F46.keep K61 (nmS ne8 (nmS ne38 nm0))
    have F66 : Fld Z h60 b PB "bounds" "[I" (.ref bd) := F47.keep K61 (nmS ne8 (nmS ne38 nm0))
    have F67 : Fld Z h60 b PB "count" "I" (.int (Int32.ofNat k)) := F48.keep K61 (nmS ne8 (nmS ne38 nm0))
    have F68 : Fld Z h60 b PB "characters" "I" (.int (Int32.ofNat ch)) := F49.keep K61 (nmS ne8 (nmS ne38 nm0))
    have F69 : Exa Z h60 t SBN := F50.keep K61
    have F70 : Fld Z h60 t AB "value" "[B" (.ref vt) := F51.keep K61 (nmS ne9 (nmS ne39 nm0))
    have F71 : Fld Z h60 t AB "coder" "B" (.int (0 : Int32)) := F52.keep K61 (nmS ne9 (nmS ne39 nm0))
    have F72 : Fld Z h60 t AB "count" "I" (.int (Int32.ofNat no)) := F53.keep K61 (nmS ne9 (nmS ne39 nm0))
    have F73 : Fld Z h60 t AB "maybeLatin1" "Z" (.int (0 : Int32)) := F54.keep K61 (nmS ne9 (nmS ne39 nm0))
    have F74 : Fa Z h60 vt .byte cp g := F55.keep K61 (nmS ne10 (nmS ne40 nm0))
    have F75 : Exa Z h60 vt "[B" := F56.keep K61
    have sz76 : n0 ≤ h60.size := Nat.le_trans sz57 K61.1
    have sy77 : h0.size ≤ h60.size := Nat.le_trans sy58 K61.1
    have K78 := K59.trans K61 (nvS (Or.inr gz12) (nvS (Or.inr gz43) nv0))
    refine Wk.popS C d17_84 rfl ?_
    refine Wk.ald C d17_85 rfl rfl ?_
    refine Wk.ald C d17_86 rfl rfl ?_
    refine Wk.putF C (wd hw 42) Via.refl F65 F64 (Or.inl (wd hw 43)) (wd hw 13) (ty := (.object SBN)) (by decide) (v' := (.ref b3)) rfl rfl gb d17_87 ?_
    intro h79 W80
    have F81 : Fld Z h79 b PB "text" "Ljava/lang/StringBuilder;" (.ref b3) := F65.same W80
    have F82 : Sta Z h79 ST "COMPACT_STRINGS" "Z" (.int cs) := F63.wr W80
    have F83 : Exa Z h79 b PB := F64.wr W80
    have F84 : Fld Z h79 b PB "bounds" "[I" (.ref bd) := F66.other W80 (Or.inr (slot_ne (Or.inl (wd hw 24)) (Or.inl (wd hw 43)) (by decide) (t := (.array .int)) (t' := (.object SBN)) (by decide) (by decide)))
    have F85 : Fld Z h79 b PB "count" "I" (.int (Int32.ofNat k)) := F67.other W80 (Or.inr (slot_ne (Or.inl (wd hw 33)) (Or.inl (wd hw 43)) (by decide) (t := .int) (t' := (.object SBN)) (by decide) (by decide)))
    have F86 : Fld Z h79 b PB "characters" "I" (.int (Int32.ofNat ch)) := F68.other W80 (Or.inr (slot_ne (Or.inr (wd hw 26)) (Or.inl (wd hw 43)) (by decide) (t := .int) (t' := (.object SBN)) (by decide) (by decide)))
    have F87 : Exa Z h79 t SBN := F69.wr W80
    have F88 : Fld Z h79 t AB "value" "[B" (.ref vt) := F70.other W80 (Or.inl (Ne.symm nbt))
    have F89 : Fld Z h79 t AB "coder" "B" (.int (0 : Int32)) := F71.other W80 (Or.inl (Ne.symm nbt))
    have F90 : Fld Z h79 t AB "count" "I" (.int (Int32.ofNat no)) := F72.other W80 (Or.inl (Ne.symm nbt))
    have F91 : Fld Z h79 t AB "maybeLatin1" "Z" (.int (0 : Int32)) := F73.other W80 (Or.inl (Ne.symm nbt))
    have F92 : Fa Z h79 vt .byte cp g := F74.other W80 (Ne.symm nbv)
    have F93 : Exa Z h79 vt "[B" := F75.wr W80
    have F94 : Exa Z h79 b3 SBN := Sq62.1.wr W80
    have F95 : Fld Z h79 b3 AB "value" "[B" (.ref voq35) := Sq62.2.1.other W80 (Or.inl (Ne.symm ne8))
    have F96 : Fld Z h79 b3 AB "coder" "B" (.int (0 : Int32)) := Sq62.2.2.1.other W80 (Or.inl (Ne.symm ne8))
    have F97 : Fld Z h79 b3 AB "count" "I" (.int (Int32.ofNat (0 + no))) := Sq62.2.2.2.1.other W80 (Or.inl (Ne.symm ne8))
    have F98 : Fld Z h79 b3 AB "maybeLatin1" "Z" (.int (0 : Int32)) := Sq62.2.2.2.2.1.other W80 (Or.inl (Ne.symm ne8))
    have F99 : Fa Z h79 voq35 .byte (max (no + mm) (no + no / 2)) (cpf g (fun _ => .int 0) 0 0 no) := Sq62.2.2.2.2.2.1.other W80 (Ne.symm ne38)
    have F100 : Exa Z h79 voq35 "[B" := Sq62.2.2.2.2.2.2.1.wr W80
    have sz101 : n0 ≤ h79.size := Nat.le_trans sz76 (Nat.le_of_eq W80.size.symm)
    have sy102 : h0.size ≤ h79.size := Nat.le_trans sy77 (Nat.le_of_eq W80.size.symm)
    have K103 := K78.wr W80 (Or.inl (by simp))
    show Wk _ p l e _ s m _ below meth c n0 _ h79 2 68 (mkF m 90 #[.val (.ref b), .val (.int (Int32.ofNat mm)), .val (.int (Int32.ofNat (no + mm))), .val (.ref b3)] [])
    exact Wk.retN0 C rfl d17_90 (by decide) (by decide) ⟨b3, voq35, (max (no + mm) (no + no / 2)), (cpf g (fun _ => .int 0) 0 0 no), rfl, K103, F81, F84, F85, F86, Sb.cast (Nat.zero_add _) (show Sb Z h79 b3 voq35 (max (no + mm) (no + no / 2)) (0 + no) (cpf g (fun _ => .int 0) 0 0 no) from ⟨F94, F95, F96, F97, F98, F99, F100, ne41, Sq62.2.2.2.2.2.2.2.2.1, Sq62.2.2.2.2.2.2.2.2.2.1, Sq62.2.2.2.2.2.2.2.2.2.2⟩), by omega, fun i hi => (cpf_0 hi).trans (hG i hi), ne8, ne38, Nat.ne_of_lt (Nat.lt_of_lt_of_le hbd gz12), Nat.ne_of_lt (Nat.lt_of_lt_of_le hbd gz43), Nat.le_trans hlo gz12, Nat.le_trans hlo gz43⟩
  · skip
    refine Wk.icY C (pc' := 90) d17_44 (XT.ii_le_t hb1) (by decide) (by decide) ?_
    exact Wk.retN0 C rfl d17_90 (by decide) (by decide) ⟨t, vt, cp, g, rfl, (Keep.refl h0 [b]), T0, F3, F1, F2, (show Sb Z h0 t vt cp no g from ⟨B.1, B.2.1, B.2.2.1, B.2.2.2.1, B.2.2.2.2.1, B.2.2.2.2.2.1, B.2.2.2.2.2.2.1, B.2.2.2.2.2.2.2.1, B.2.2.2.2.2.2.2.2.1, B.2.2.2.2.2.2.2.2.2.1, B.2.2.2.2.2.2.2.2.2.2⟩), by have := mt (lt32 (by omega) (by omega)).mpr hb1; omega, hG, nbt, nbv, ndt, ndv, gt, gvt⟩
set_option maxRecDepth 65536 in
theorem own_mk (l : Launch) (Z : State) (a0 : Array Value) (hw : ∀ d ∈ tables_1, d.before a0 Z = true) (n0 : Nat) (h0 : Heap) (cs : Int32) (SC : Sta Z h0 ST "COMPACT_STRINGS" "Z" (.int cs)) (hcs : ¬ cs = (0 : Int32)) (hp : Heap) (hlo : hp.size ≤ h0.size) (hn0 : n0 ≤ hp.size) (b bd : Addr) (gb : n0 ≤ b) (k ch no mm : Nat) (G : Nat → Value) (E0 : Exa Z h0 b PB) (F3 : Fld Z h0 b PB "bounds" "[I" (.ref bd)) (F1 : Fld Z h0 b PB "count" "I" (.int (Int32.ofNat k))) (F2 : Fld Z h0 b PB "characters" "I" (.int (Int32.ofNat ch))) (hbd : bd < h0.size) (hch : ch ≤ 64) (hno : no ≤ 8) (hmm : mm ≤ 8) (T : Tx Z h0 hp b bd no G) :
    Met false l Z n0 (⟨PB, "makeRoom", "(I)V"⟩ : MethodName) prog_44_method_9_code 4 none ({ frames := 5, cells := 2, slots := 68, locals := 82 } : Room) #[(.ref b), (.int (Int32.ofNat mm))] h0 (fun r h => ∃ t vt cp g, r = none ∧ Keep h0 h [b] ∧ Fld Z h b PB "text" TD (.ref t) ∧ Fld Z h b PB "bounds" "[I" (.ref bd) ∧ Fld Z h b PB "count" "I" (.int (Int32.ofNat k)) ∧ Fld Z h b PB "characters" "I" (.int (Int32.ofNat ch)) ∧ Sb Z h t vt cp no g ∧ no + mm ≤ cp ∧ (∀ i, i < no → g i = G i) ∧ b ≠ t ∧ b ≠ vt ∧ bd ≠ t ∧ bd ≠ vt ∧ hp.size ≤ t ∧ hp.size ≤ vt) := by
  rcases T with ⟨T0, z⟩ | ⟨t, vt, cp, g, T0, B, hG, n1, n2, n3, n4, g1, g2⟩
  · exact own_mk0 l Z a0 hw n0 h0 cs SC hcs hp hlo hn0 b bd gb k ch no mm G E0 F3 F1 F2 hbd hch hno hmm T0 z
  · exact own_mk1 l Z a0 hw n0 h0 cs SC hcs hp hlo hn0 b bd gb k ch no mm G E0 F3 F1 F2 hbd hch hno hmm t vt cp g T0 B hG n1 n2 n3 n4 g1 g2
theorem d16_0 : decode prog_44_method_4_code 0 = .ok (.aload_n 0, 1) := by decide +kernel
theorem d16_1 : decode prog_44_method_4_code 1 = .ok (.iload_n 3, 1) := by decide +kernel
theorem d16_2 : decode prog_44_method_4_code 2 = .ok (.iload_n 2, 1) := by decide +kernel
theorem d16_3 : decode prog_44_method_4_code 3 = .ok (.isub, 1) := by decide +kernel
theorem d16_4 : decode prog_44_method_4_code 4 = .ok (.invokevirtual 33, 3) := by decide +kernel
theorem d16_7 : decode prog_44_method_4_code 7 = .ok (.iload_n 2, 1) := by decide +kernel
theorem d16_8 : decode prog_44_method_4_code 8 = .ok (.ifCond .ne 25, 3) := by decide +kernel
theorem d16_11 : decode prog_44_method_4_code 11 = .ok (.iload_n 3, 1) := by decide +kernel
theorem d16_12 : decode prog_44_method_4_code 12 = .ok (.aload_n 1, 1) := by decide +kernel
theorem d16_13 : decode prog_44_method_4_code 13 = .ok (.invokeinterface 23 1, 5) := by decide +kernel
theorem d16_18 : decode prog_44_method_4_code 18 = .ok (.if_icmp .ne 15, 3) := by decide +kernel
theorem d16_21 : decode prog_44_method_4_code 21 = .ok (.aload_n 0, 1) := by decide +kernel
theorem d16_22 : decode prog_44_method_4_code 22 = .ok (.getfield 36, 3) := by decide +kernel
theorem d16_25 : decode prog_44_method_4_code 25 = .ok (.aload_n 1, 1) := by decide +kernel
theorem d16_26 : decode prog_44_method_4_code 26 = .ok (.invokevirtual 40, 3) := by decide +kernel
theorem d16_29 : decode prog_44_method_4_code 29 = .ok (.pop, 1) := by decide +kernel
theorem d16_30 : decode prog_44_method_4_code 30 = .ok (.goto 14, 3) := by decide +kernel
theorem d16_44 : decode prog_44_method_4_code 44 = .ok (.aload_n 0, 1) := by decide +kernel
theorem d16_45 : decode prog_44_method_4_code 45 = .ok (.getfield 49, 3) := by decide +kernel
theorem d16_48 : decode prog_44_method_4_code 48 = .ok (.iconst 1, 1) := by decide +kernel
theorem d16_49 : decode prog_44_method_4_code 49 = .ok (.iadd, 1) := by decide +kernel
theorem d16_50 : decode prog_44_method_4_code 50 = .ok (.aload_n 0, 1) := by decide +kernel
theorem d16_51 : decode prog_44_method_4_code 51 = .ok (.getfield 16, 3) := by decide +kernel
theorem d16_54 : decode prog_44_method_4_code 54 = .ok (.arraylength, 1) := by decide +kernel
theorem d16_55 : decode prog_44_method_4_code 55 = .ok (.if_icmp .ne 29, 3) := by decide +kernel
theorem d16_58 : decode prog_44_method_4_code 58 = .ok (.aload_n 0, 1) := by decide +kernel
theorem d16_59 : decode prog_44_method_4_code 59 = .ok (.aload_n 0, 1) := by decide +kernel
theorem d16_60 : decode prog_44_method_4_code 60 = .ok (.getfield 16, 3) := by decide +kernel
theorem d16_63 : decode prog_44_method_4_code 63 = .ok (.aload_n 0, 1) := by decide +kernel
theorem d16_64 : decode prog_44_method_4_code 64 = .ok (.getfield 16, 3) := by decide +kernel
theorem d16_67 : decode prog_44_method_4_code 67 = .ok (.arraylength, 1) := by decide +kernel
theorem d16_68 : decode prog_44_method_4_code 68 = .ok (.aload_n 0, 1) := by decide +kernel
theorem d16_69 : decode prog_44_method_4_code 69 = .ok (.getfield 16, 3) := by decide +kernel
theorem d16_72 : decode prog_44_method_4_code 72 = .ok (.arraylength, 1) := by decide +kernel
theorem d16_73 : decode prog_44_method_4_code 73 = .ok (.iconst 1, 1) := by decide +kernel
theorem d16_74 : decode prog_44_method_4_code 74 = .ok (.ishr, 1) := by decide +kernel
theorem d16_75 : decode prog_44_method_4_code 75 = .ok (.iadd, 1) := by decide +kernel
theorem d16_76 : decode prog_44_method_4_code 76 = .ok (.iconst 1, 1) := by decide +kernel
theorem d16_77 : decode prog_44_method_4_code 77 = .ok (.iadd, 1) := by decide +kernel
theorem d16_78 : decode prog_44_method_4_code 78 = .ok (.invokestatic 52, 3) := by decide +kernel
theorem d16_81 : decode prog_44_method_4_code 81 = .ok (.putfield 16, 3) := by decide +kernel
theorem d16_84 : decode prog_44_method_4_code 84 = .ok (.aload_n 0, 1) := by decide +kernel
theorem d16_85 : decode prog_44_method_4_code 85 = .ok (.getfield 16, 3) := by decide +kernel
theorem d16_88 : decode prog_44_method_4_code 88 = .ok (.aload_n 0, 1) := by decide +kernel
theorem d16_89 : decode prog_44_method_4_code 89 = .ok (.dup, 1) := by decide +kernel
theorem d16_90 : decode prog_44_method_4_code 90 = .ok (.getfield 49, 3) := by decide +kernel
theorem d16_93 : decode prog_44_method_4_code 93 = .ok (.iconst 1, 1) := by decide +kernel
theorem d16_94 : decode prog_44_method_4_code 94 = .ok (.iadd, 1) := by decide +kernel
theorem d16_95 : decode prog_44_method_4_code 95 = .ok (.dup_x1, 1) := by decide +kernel
theorem d16_96 : decode prog_44_method_4_code 96 = .ok (.putfield 49, 3) := by decide +kernel
theorem d16_99 : decode prog_44_method_4_code 99 = .ok (.aload_n 0, 1) := by decide +kernel
theorem d16_100 : decode prog_44_method_4_code 100 = .ok (.getfield 36, 3) := by decide +kernel
theorem d16_103 : decode prog_44_method_4_code 103 = .ok (.invokevirtual 58, 3) := by decide +kernel
theorem d16_106 : decode prog_44_method_4_code 106 = .ok (.iastore, 1) := by decide +kernel
theorem d16_107 : decode prog_44_method_4_code 107 = .ok (.aload_n 0, 1) := by decide +kernel
theorem d16_108 : decode prog_44_method_4_code 108 = .ok (.areturn, 1) := by decide +kernel
set_option maxRecDepth 65536 in
set_option maxHeartbeats 40000000 in
theorem own_add3 (l : Launch) (Z : State) (a0 : Array Value) (hw : ∀ d ∈ tables_1, d.before a0 Z = true) (n0 : Nat) (h0 : Heap) (cs : Int32) (SC : Sta Z h0 ST "COMPACT_STRINGS" "Z" (.int cs)) (hcs : ¬ cs = (0 : Int32)) (hp : Heap) (hlo : hp.size ≤ h0.size) (hn0 : n0 ≤ hp.size) (b : Addr) (gb : n0 ≤ b) (k ch no : Nat) (G ff : Nat → Value) (H : BB Z h0 b k (k + 1) ff ch (fun bd => Tx Z h0 hp b bd no G)) (a va : Addr) (n : Nat) (f : Nat → Value) (S : Str Z h0 a va n f) (ha : a < hp.size) (hva : va < hp.size) (na : a ≠ b) (nva : va ≠ b) (hch : ch ≤ 64) (hno : no ≤ 8) (hnn : n ≤ 8) (hk : k ≤ 8) :
    Met false l Z n0 (⟨PB, "add", "(Ljava/lang/CharSequence;II)Lcom/example/amendatory/amendatory/Paragraphs$Builder;"⟩ : MethodName) prog_44_method_4_code 4 (some (.object PB)) ({ frames := 8, cells := 3, slots := 132, locals := 122 } : Room) #[(.ref b), (.ref a), (.int (0 : Int32)), (.int (Int32.ofNat n))] h0 (fun r h => r = some (.ref b) ∧ Kq hp b h0 h ∧ BB Z h b (k + 1) (k + 1 + (k + 1) / 2 + 1) (up (cpf ff (fun _ => .int (0 : Int32)) 0 0 (k + 1)) (k + 1) (.int (Int32.ofNat (no + n)))) ch (fun bd => Tq Z h hp b bd (no + n) (cat2 G f no))) := by
  refine Met.of (plainFor_of_name pn_7) #[.val (.ref b), .val (.ref a), .val (.int (0 : Int32)), .val (.int (Int32.ofNat n))] (fun m => by first | (simp [entryFrame, mkF, argsToLocals, Value.category]; done) | rfl) ?_
  intro p e s m below meth c C
  obtain ⟨E0, F1, F2, bd, F3, F4, XI, hbb, T⟩ := H
  have hsz : n0 ≤ h0.size := Nat.le_trans hn0 hlo
  refine Wk.ald C d16_0 rfl rfl ?_
  refine Wk.ild C d16_1 rfl ?_
  refine Wk.ild C d16_2 rfl ?_
  refine Wk.st (g' := (mkF m 4 #[.val (.ref b), .val (.ref a), .val (.int (0 : Int32)), .val (.int (Int32.ofNat n))] [(.int ((Int32.ofNat n) - (0 : Int32))), (.ref b)])) (fun X t q => XS.isub X.here C.hx rfl (hb C.hby d16_3) rfl q) ?_
  rw [show ((Int32.ofNat n) - (0 : Int32)) = (Int32.ofNat n) from sz32 _]
  show Wk _ p l e _ s m _ below meth c n0 _ h0 0 0 (mkF m 4 #[.val (.ref b), .val (.ref a), .val (.int (0 : Int32)), .val (.int (Int32.ofNat n))] [(.int (Int32.ofNat n)), (.ref b)])
  refine Wk.callP C (z := (⟨PB, "makeRoom", "(I)V"⟩ : MethodName)) (K := PB) (wd hw 103) (wd hw 104) (wd hw 105) (wd hw 13) (wd hw 14) (wd hw 106) (by decide) E0 (own_mk l Z a0 hw n0 h0 cs SC hcs hp hlo hn0 b bd gb k ch no n G E0 F3 F1 F2 F4.lt hch hno hnn T) (w := 0) (by decide) (by decide) pd_2 rfl (rest := []) rfl rfl (Nat.le_of_eq rfl) (by decide) (by decide) d16_4 ?_
  rintro _ h1 ⟨tq3, vtq4, cpq5, gq6, rfl, K2, Ftq7, Fbq8, Fcq9, Fhq10, Sq11, c1q12, hGq13, n1q14, n2q15, n3q16, n4q17, g1q18, g2q19⟩
  show Wk _ p l e _ s m _ below meth c n0 _ h1 2 68 (mkF m 7 #[.val (.ref b), .val (.ref a), .val (.int (0 : Int32)), .val (.int (Int32.ofNat n))] [])
  have F20 : Sta Z h1 ST "COMPACT_STRINGS" "Z" (.int cs) := sta_keep SC K2 (nvS (exa_ns E0) nv0)
  have F21 : Exa Z h1 a ST := S.1.keep K2
  have F22 : Fld Z h1 a ST "value" "[B" (.ref va) := S.2.1.keep K2 (nmS na nm0)
  have F23 : Fld Z h1 a ST "coder" "B" (.int (0 : Int32)) := S.2.2.1.keep K2 (nmS na nm0)
  have F24 : Fa Z h1 va .byte n f := S.2.2.2.1.keep K2 (nmS nva nm0)
  have F25 : Exa Z h1 va "[B" := S.2.2.2.2.1.keep K2
  have F26 : Exa Z h1 b PB := E0.keep K2
  have F27 : Fa Z h1 bd .int (k + 1) ff := F4.keep K2 (nmS hbb nm0)
  have sz28 : n0 ≤ h1.size := Nat.le_trans hsz K2.1
  have sy29 : hp.size ≤ h1.size := Nat.le_trans hlo K2.1
  have K30 := (Kq.refl hp b h0).trans K2 (nvS (Or.inl (by simp)) nv0)
  have ne31 : a ≠ tq3 := Nat.ne_of_lt (Nat.lt_of_lt_of_le ha g1q18)
  have ne32 : a ≠ vtq4 := Nat.ne_of_lt (Nat.lt_of_lt_of_le ha g2q19)
  have ne33 : va ≠ tq3 := Nat.ne_of_lt (Nat.lt_of_lt_of_le hva g1q18)
  have ne34 : va ≠ vtq4 := Nat.ne_of_lt (Nat.lt_of_lt_of_le hva g2q19)
  have ge35 : n0 ≤ tq3 := Nat.le_trans hn0 g1q18
  have ge36 : n0 ≤ vtq4 := Nat.le_trans hn0 g2q19
  have hBq := Sq11.2.2.2.2.2.2.2.2.2
  refine Wk.ild C d16_7 rfl ?_
  refine Wk.ifN C d16_8 (XT.i0_ne_f (by decide)) ?_
  refine Wk.ild C d16_11 rfl ?_
  refine Wk.ald C d16_12 rfl rfl ?_
  refine Wk.callF C (x := (⟨"java/lang/CharSequence", "length", "()I"⟩ : MethodName)) (z := (⟨ST, "length", "()I"⟩ : MethodName)) (K := ST) (wd hw 84) (wd hw 85) (fun hZ' => mvT hZ' (wd hw 86)) (wd hw 87) (wd hw 88) (fun hZ' => mvT hZ' (wd hw 89)) (fun hZ' => mvT hZ' (wd hw 90)) (fun hZ' => mvT hZ' (wd hw 91)) (wd hw 5) (wd hw 92) (by decide) F21 (own_len l Z a0 hw n0 h1 cs F20 hcs a va n f (show Str Z h1 a va n f from ⟨F21, F22, F23, F24, F25, S.2.2.2.2.2⟩)) (w := 1) (by decide) (by decide) pd_1 rfl (rest := [(.int (Int32.ofNat n))]) rfl rfl (Nat.le_of_eq rfl) (by decide) (by decide) d16_13 ?_
  rintro _ _ ⟨rfl, rfl⟩
  show Wk _ p l e _ s m _ below meth c n0 _ h1 2 68 (mkF m 18 #[.val (.ref b), .val (.ref a), .val (.int (0 : Int32)), .val (.int (Int32.ofNat n))] [(.int (Int32.ofNat n)), (.int (Int32.ofNat n))])
  refine Wk.icN C d16_18 (XT.ii_ne_f rfl) ?_
  refine Wk.ald C d16_21 rfl rfl ?_
  refine Wk.getF C (wd hw 42) Via.refl Ftq7 d16_22 ?_
  show Wk _ p l e _ s m _ below meth c n0 _ h1 2 68 (mkF m 25 #[.val (.ref b), .val (.ref a), .val (.int (0 : Int32)), .val (.int (Int32.ofNat n))] [(.ref tq3)])
  refine Wk.ald C d16_25 rfl rfl ?_
  refine Wk.callV C (x := (⟨SBN, "append", "(Ljava/lang/CharSequence;)Ljava/lang/StringBuilder;"⟩ : MethodName)) (z := (⟨SBN, "append", "(Ljava/lang/CharSequence;)Ljava/lang/StringBuilder;"⟩ : MethodName)) (K := SBN) (wd hw 150) (wd hw 151) (wd hw 153) (wd hw 152) (wd hw 109) (wd hw 154) (by decide) (fun s' hZ' => notFace_of_selects (args := #[]) (mvT hZ' (wd hw 153))) Sq11.1 (own_scs l Z a0 hw n0 h1 cs F20 hcs a va n f (show Str Z h1 a va n f from ⟨F21, F22, F23, F24, F25, S.2.2.2.2.2⟩) tq3 vtq4 cpq5 no gq6 (show Sb Z h1 tq3 vtq4 cpq5 no gq6 from ⟨Sq11.1, Sq11.2.1, Sq11.2.2.1, Sq11.2.2.2.1, Sq11.2.2.2.2.1, Sq11.2.2.2.2.2.1, Sq11.2.2.2.2.2.2.1, Sq11.2.2.2.2.2.2.2.1, Sq11.2.2.2.2.2.2.2.2.1, Sq11.2.2.2.2.2.2.2.2.2.1, Sq11.2.2.2.2.2.2.2.2.2.2⟩) ne31 ne32 ne33 ne34 ge35 ge36 c1q12) (w := 0) (by decide) (by decide) pd_19 rfl (rest := []) rfl rfl (Nat.le_of_eq rfl) (by decide) (by decide) d16_26 ?_
  rintro _ h37 ⟨rfl, K38, Sq39⟩
  show Wk _ p l e _ s m _ below meth c n0 _ h37 2 68 (mkF m 29 #[.val (.ref b), .val (.ref a), .val (.int (0 : Int32)), .val (.int (Int32.ofNat n))] [(.ref tq3)])
  have F40 : Sta Z h37 ST "COMPACT_STRINGS" "Z" (.int cs) := sta_keep F20 K38 (nvS (exa_ns Sq11.1) (nvS (exa_ns Sq11.2.2.2.2.2.2.1) nv0))
  have F41 : Exa Z h37 a ST := F21.keep K38
  have F42 : Fld Z h37 a ST "value" "[B" (.ref va) := F22.keep K38 (nmS ne31 (nmS ne32 nm0))
  have F43 : Fld Z h37 a ST "coder" "B" (.int (0 : Int32)) := F23.keep K38 (nmS ne31 (nmS ne32 nm0))
  have F44 : Fa Z h37 va .byte n f := F24.keep K38 (nmS ne33 (nmS ne34 nm0))
  have F45 : Exa Z h37 va "[B" := F25.keep K38
  have F46 : Exa Z h37 b PB := F26.keep K38
  have F47 : Fa Z h37 bd .int (k + 1) ff := F27.keep K38 (nmS n3q16 (nmS n4q17 nm0))
  have F48 : Fld Z h37 b PB "text" "Ljava/lang/StringBuilder;" (.ref tq3) := Ftq7.keep K38 (nmS n1q14 (nmS n2q15 nm0))
  have F49 : Fld Z h37 b PB "bounds" "[I" (.ref bd) := Fbq8.keep K38 (nmS n1q14 (nmS n2q15 nm0))
  have F50 : Fld Z h37 b PB "count" "I" (.int (Int32.ofNat k)) := Fcq9.keep K38 (nmS n1q14 (nmS n2q15 nm0))
  have F51 : Fld Z h37 b PB "characters" "I" (.int (Int32.ofNat ch)) := Fhq10.keep K38 (nmS n1q14 (nmS n2q15 nm0))
  have sz52 : n0 ≤ h37.size := Nat.le_trans sz28 K38.1
  have sy53 : hp.size ≤ h37.size := Nat.le_trans sy29 K38.1
  have K54 := K30.trans K38 (nvS (Or.inr g1q18) (nvS (Or.inr g2q19) nv0))
  refine Wk.popS C d16_29 rfl ?_
  refine Wk.gto C (pc' := 44) d16_30 (by decide) (by decide) ?_
  refine Wk.ald C d16_44 rfl rfl ?_
  refine Wk.getF C (wd hw 32) Via.refl F50 d16_45 ?_
  show Wk _ p l e _ s m _ below meth c n0 _ h37 2 68 (mkF m 48 #[.val (.ref b), .val (.ref a), .val (.int (0 : Int32)), .val (.int (Int32.ofNat n))] [(.int (Int32.ofNat k))])
  refine Wk.st (g' := (mkF m 49 #[.val (.ref b), .val (.ref a), .val (.int (0 : Int32)), .val (.int (Int32.ofNat n))] [(.int (1 : Int32)), (.int (Int32.ofNat k))])) (fun X t q => XS.iconst X.here C.hx rfl (hb C.hby d16_48) q) ?_
  refine Wk.st (g' := (mkF m 50 #[.val (.ref b), .val (.ref a), .val (.int (0 : Int32)), .val (.int (Int32.ofNat n))] [(.int ((Int32.ofNat k) + (1 : Int32)))])) (fun X t q => XS.iadd X.here C.hx rfl (hb C.hby d16_49) rfl q) ?_
  rw [show ((Int32.ofNat k) + (1 : Int32)) = (Int32.ofNat (k + 1)) from one32 (by omega)]
  show Wk _ p l e _ s m _ below meth c n0 _ h37 2 68 (mkF m 50 #[.val (.ref b), .val (.ref a), .val (.int (0 : Int32)), .val (.int (Int32.ofNat n))] [(.int (Int32.ofNat (k + 1)))])
  refine Wk.ald C d16_50 rfl rfl ?_
  refine Wk.getF C (wd hw 23) Via.refl F49 d16_51 ?_
  show Wk _ p l e _ s m _ below meth c n0 _ h37 2 68 (mkF m 54 #[.val (.ref b), .val (.ref a), .val (.int (0 : Int32)), .val (.int (Int32.ofNat n))] [(.ref bd), (.int (Int32.ofNat (k + 1)))])
  refine Wk.fLen C F47 (z := (Int32.ofNat (k + 1))) rfl d16_54 ?_
  show Wk _ p l e _ s m _ below meth c n0 _ h37 2 68 (mkF m 55 #[.val (.ref b), .val (.ref a), .val (.int (0 : Int32)), .val (.int (Int32.ofNat n))] [(.int (Int32.ofNat (k + 1))), (.int (Int32.ofNat (k + 1)))])
  refine Wk.icN C d16_55 (XT.ii_ne_f rfl) ?_
  refine Wk.ald C d16_58 rfl rfl ?_
  refine Wk.ald C d16_59 rfl rfl ?_
  refine Wk.getF C (wd hw 23) Via.refl F49 d16_60 ?_
  show Wk _ p l e _ s m _ below meth c n0 _ h37 2 68 (mkF m 63 #[.val (.ref b), .val (.ref a), .val (.int (0 : Int32)), .val (.int (Int32.ofNat n))] [(.ref bd), (.ref b)])
  refine Wk.ald C d16_63 rfl rfl ?_
  refine Wk.getF C (wd hw 23) Via.refl F49 d16_64 ?_
  show Wk _ p l e _ s m _ below meth c n0 _ h37 2 68 (mkF m 67 #[.val (.ref b), .val (.ref a), .val (.int (0 : Int32)), .val (.int (Int32.ofNat n))] [(.ref bd), (.ref bd), (.ref b)])
  refine Wk.fLen C F47 (z := (Int32.ofNat (k + 1))) rfl d16_67 ?_
  show Wk _ p l e _ s m _ below meth c n0 _ h37 2 68 (mkF m 68 #[.val (.ref b), .val (.ref a), .val (.int (0 : Int32)), .val (.int (Int32.ofNat n))] [(.int (Int32.ofNat (k + 1))), (.ref bd), (.ref b)])
  refine Wk.ald C d16_68 rfl rfl ?_
  refine Wk.getF C (wd hw 23) Via.refl F49 d16_69 ?_
  show Wk _ p l e _ s m _ below meth c n0 _ h37 2 68 (mkF m 72 #[.val (.ref b), .val (.ref a), .val (.int (0 : Int32)), .val (.int (Int32.ofNat n))] [(.ref bd), (.int (Int32.ofNat (k + 1))), (.ref bd), (.ref b)])
  refine Wk.fLen C F47 (z := (Int32.ofNat (k + 1))) rfl d16_72 ?_
  show Wk _ p l e _ s m _ below meth c n0 _ h37 2 68 (mkF m 73 #[.val (.ref b), .val (.ref a), .val (.int (0 : Int32)), .val (.int (Int32.ofNat n))] [(.int (Int32.ofNat (k + 1))), (.int (Int32.ofNat (k + 1))), (.ref bd), (.ref b)])
  refine Wk.st (g' := (mkF m 74 #[.val (.ref b), .val (.ref a), .val (.int (0 : Int32)), .val (.int (Int32.ofNat n))] [(.int (1 : Int32)), (.int (Int32.ofNat (k + 1))), (.int (Int32.ofNat (k + 1))), (.ref bd), (.ref b)])) (fun X t q => XS.iconst X.here C.hx rfl (hb C.hby d16_73) q) ?_
  refine Wk.st (g' := (mkF m 75 #[.val (.ref b), .val (.ref a), .val (.int (0 : Int32)), .val (.int (Int32.ofNat n))] [(.int ((Int32.ofNat (k + 1)) >>> ((1 : Int32) &&& 31))), (.int (Int32.ofNat (k + 1))), (.ref bd), (.ref b)])) (fun X t q => XS.ishr X.here C.hx rfl (hb C.hby d16_74) rfl q) ?_
  rw [show ((Int32.ofNat (k + 1)) >>> ((1 : Int32) &&& 31)) = (Int32.ofNat ((k + 1) / 2)) from half32 (by omega)]
  show Wk _ p l e _ s m _ below meth c n0 _ h37 2 68 (mkF m 75 #[.val (.ref b), .val (.ref a), .val (.int (0 : Int32)), .val (.int (Int32.ofNat n))] [(.int (Int32.ofNat ((k + 1) / 2))), (.int (Int32.ofNat (k + 1))), (.ref bd), (.ref b)])
  refine Wk.st (g' := (mkF m 76 #[.val (.ref b), .val (.ref a), .val (.int (0 : Int32)), .val (.int (Int32.ofNat n))] [(.int ((Int32.ofNat (k + 1)) + (Int32.ofNat ((k + 1) / 2)))), (.ref bd), (.ref b)])) (fun X t q => XS.iadd X.here C.hx rfl (hb C.hby d16_75) rfl q) ?_
  rw [show ((Int32.ofNat (k + 1)) + (Int32.ofNat ((k + 1) / 2))) = (Int32.ofNat (k + 1 + (k + 1) / 2)) from add32 (by omega)]
  show Wk _ p l e _ s m _ below meth c n0 _ h37 2 68 (mkF m 76 #[.val (.ref b), .val (.ref a), .val (.int (0 : Int32)), .val (.int (Int32.ofNat n))] [(.int (Int32.ofNat (k + 1 + (k + 1) / 2))), (.ref bd), (.ref b)])
  refine Wk.st (g' := (mkF m 77 #[.val (.ref b), .val (.ref a), .val (.int (0 : Int32)), .val (.int (Int32.ofNat n))] [(.int (1 : Int32)), (.int (Int32.ofNat (k + 1 + (k + 1) / 2))), (.ref bd), (.ref b)])) (fun X t q => XS.iconst X.here C.hx rfl (hb C.hby d16_76) q) ?_
  refine Wk.st (g' := (mkF m 78 #[.val (.ref b), .val (.ref a), .val (.int (0 : Int32)), .val (.int (Int32.ofNat n))] [(.int ((Int32.ofNat (k + 1 + (k + 1) / 2)) + (1 : Int32))), (.ref bd), (.ref b)])) (fun X t q => XS.iadd X.here C.hx rfl (hb C.hby d16_77) rfl q) ?_
  rw [show ((Int32.ofNat (k + 1 + (k + 1) / 2)) + (1 : Int32)) = (Int32.ofNat (k + 1 + (k + 1) / 2 + 1)) from one32 (by omega)]
  show Wk _ p l e _ s m _ below meth c n0 _ h37 2 68 (mkF m 78 #[.val (.ref b), .val (.ref a), .val (.int (0 : Int32)), .val (.int (Int32.ofNat n))] [(.int (Int32.ofNat (k + 1 + (k + 1) / 2 + 1))), (.ref bd), (.ref b)])
  refine Wk.callS C (z := (⟨"java/util/Arrays", "copyOf", "([II)[I"⟩ : MethodName)) (wd hw 201) (wd hw 202) (wd hw 203) (wd hw 204) (by decide) (own_cpI l Z a0 hw n0 h37 sz52 bd (k + 1) (k + 1 + (k + 1) / 2 + 1) ff F47 XI (by omega) (by omega)) (w := 1) (by decide) (by decide) pd_20 rfl (rest := [(.ref b)]) rfl rfl (Nat.le_of_eq rfl) (by decide) (by decide) d16_78 ?_
  rintro _ h55 ⟨yq57, rfl, K56, gq58, Eq59, Fq60⟩
  show Wk _ p l e _ s m _ below meth c n0 _ h55 3 132 (mkF m 81 #[.val (.ref b), .val (.ref a), .val (.int (0 : Int32)), .val (.int (Int32.ofNat n))] [(.ref yq57), (.ref b)])
  have ne61 : a ≠ yq57 := Nat.ne_of_lt (Nat.lt_of_lt_of_le (F41).lt gq58)
  have ne62 : va ≠ yq57 := Nat.ne_of_lt (Nat.lt_of_lt_of_le (F44).lt gq58)
  have ne63 : b ≠ yq57 := Nat.ne_of_lt (Nat.lt_of_lt_of_le (F46).lt gq58)
  have ne64 : bd ≠ yq57 := Nat.ne_of_lt (Nat.lt_of_lt_of_le (F47).lt gq58)
  have ne65 : tq3 ≠ yq57 := Nat.ne_of_lt (Nat.lt_of_lt_of_le (Sq39.1).lt gq58)
  have ne66 : vtq4 ≠ yq57 := Nat.ne_of_lt (Nat.lt_of_lt_of_le (Sq39.2.2.2.2.2.1).lt gq58)
  have ge67 : n0 ≤ yq57 := Nat.le_trans sz52 gq58
  have gz68 : hp.size ≤ yq57 := Nat.le_trans sy53 gq58
  have F69 : Sta Z h55 ST "COMPACT_STRINGS" "Z" (.int cs) := sta_keep F40 K56 nv0
  have F70 : Exa Z h55 a ST := F41.keep K56
  have F71 : Fld Z h55 a ST "value" "[B" (.ref va) := F42.keep K56 nm0
  have F72 : Fld Z h55 a ST "coder" "B" (.int (0 : Int32)) := F43.keep K56 nm0
  have F73 : Fa Z h55 va .byte n f := F44.keep K56 nm0
  have F74 : Exa Z h55 va "[B" := F45.keep K56
  have F75 : Exa Z h55 b PB := F46.keep K56
  have F76 : Fa Z h55 bd .int (k + 1) ff := F47.keep K56 nm0
  have F77 : Fld Z h55 b PB "text" "Ljava/lang/StringBuilder;" (.ref tq3) := F48.keep K56 nm0
  have F78 : Fld Z h55 b PB "bounds" "[I" (.ref bd) := F49.keep K56 nm0
  have F79 : Fld Z h55 b PB "count" "I" (.int (Int32.ofNat k)) := F50.keep K56 nm0
  have F80 : Fld Z h55 b PB "characters" "I" (.int (Int32.ofNat ch)) := F51.keep K56 nm0
  have F81 : Exa Z h55 tq3 SBN := Sq39.1.keep K56
  have F82 : Fld Z h55 tq3 AB "value" "[B" (.ref vtq4) := Sq39.2.1.keep K56 nm0
  have F83 : Fld Z h55 tq3 AB "coder" "B" (.int (0 : Int32)) := Sq39.2.2.1.keep K56 nm0
  have F84 : Fld Z h55 tq3 AB "count" "I" (.int (Int32.ofNat (no + n))) := Sq39.2.2.2.1.keep K56 nm0
  have F85 : Fld Z h55 tq3 AB "maybeLatin1" "Z" (.int (0 : Int32)) := Sq39.2.2.2.2.1.keep K56 nm0
  have F86 : Fa Z h55 vtq4 .byte cpq5 (cpf f gq6 0 no n) := Sq39.2.2.2.2.2.1.keep K56 nm0
  have F87 : Exa Z h55 vtq4 "[B" := Sq39.2.2.2.2.2.2.1.keep K56
  have sz88 : n0 ≤ h55.size := Nat.le_trans sz52 K56.1
  have sy89 : hp.size ≤ h55.size := Nat.le_trans sy53 K56.1
  have K90 := K54.trans K56 nv0
  refine Wk.putF C (wd hw 23) Via.refl F78 F75 (Or.inl (wd hw 24)) (wd hw 13) (ty := (.array .int)) (by decide) (v' := (.ref yq57)) rfl rfl gb d16_81 ?_
  intro h91 W92
  have F93 : Fld Z h91 b PB "bounds" "[I" (.ref yq57) := F78.same W92
  have F94 : Sta Z h91 ST "COMPACT_STRINGS" "Z" (.int cs) := F69.wr W92
  have F95 : Exa Z h91 a ST := F70.wr W92
  have F96 : Fld Z h91 a ST "value" "[B" (.ref va) := F71.other W92 (Or.inl na)
  have F97 : Fld Z h91 a ST "coder" "B" (.int (0 : Int32)) := F72.other W92 (Or.inl na)
  have F98 : Fa Z h91 va .byte n f := F73.other W92 nva
  have F99 : Exa Z h91 va "[B" := F74.wr W92
  have F100 : Exa Z h91 b PB := F75.wr W92
  have F101 : Fa Z h91 bd .int (k + 1) ff := F76.other W92 hbb
  have F102 : Fld Z h91 b PB "text" "Ljava/lang/StringBuilder;" (.ref tq3) := F77.other W92 (Or.inr (slot_ne (Or.inl (wd hw 43)) (Or.inl (wd hw 24)) (by decide) (t := (.object SBN)) (t' := (.array .int)) (by decide) (by decide)))
  have F103 : Fld Z h91 b PB "count" "I" (.int (Int32.ofNat k)) := F79.other W92 (Or.inr (slot_ne (Or.inl (wd hw 33)) (Or.inl (wd hw 24)) (by decide) (t := .int) (t' := (.array .int)) (by decide) (by decide)))
  have F104 : Fld Z h91 b PB "characters" "I" (.int (Int32.ofNat ch)) := F80.other W92 (Or.inr (slot_ne (Or.inr (wd hw 26)) (Or.inl (wd hw 24)) (by decide) (t := .int) (t' := (.array .int)) (by decide) (by decide)))
  have F105 : Exa Z h91 tq3 SBN := F81.wr W92
  have F106 : Fld Z h91 tq3 AB "value" "[B" (.ref vtq4) := F82.other W92 (Or.inl (Ne.symm n1q14))
  have F107 : Fld Z h91 tq3 AB "coder" "B" (.int (0 : Int32)) := F83.other W92 (Or.inl (Ne.symm n1q14))
  have F108 : Fld Z h91 tq3 AB "count" "I" (.int (Int32.ofNat (no + n))) := F84.other W92 (Or.inl (Ne.symm n1q14))
  have F109 : Fld Z h91 tq3 AB "maybeLatin1" "Z" (.int (0 : Int32)) := F85.other W92 (Or.inl (Ne.symm n1q14))
  have F110 : Fa Z h91 vtq4 .byte cpq5 (cpf f gq6 0 no n) := F86.other W92 (Ne.symm n2q15)
  have F111 : Exa Z h91 vtq4 "[B" := F87.wr W92
  have F112 : Exa Z h91 yq57 "[I" := Eq59.wr W92
  have F113 : Fa Z h91 yq57 .int (k + 1 + (k + 1) / 2 + 1) (cpf ff (fun _ => .int (0 : Int32)) 0 0 (k + 1)) := Fq60.other W92 (Ne.symm ne63)
  have sz114 : n0 ≤ h91.size := Nat.le_trans sz88 (Nat.le_of_eq W92.size.symm)
  have sy115 : hp.size ≤ h91.size := Nat.le_trans sy89 (Nat.le_of_eq W92.size.symm)
  have K116 := K90.wr W92 (Or.inl (by simp))
  show Wk _ p l e _ s m _ below meth c n0 _ h91 3 132 (mkF m 84 #[.val (.ref b), .val (.ref a), .val (.int (0 : Int32)), .val (.int (Int32.ofNat n))] [])
  refine Wk.ald C d16_84 rfl rfl ?_
  refine Wk.getF C (wd hw 23) Via.refl F93 d16_85 ?_
  show Wk _ p l e _ s m _ below meth c n0 _ h91 3 132 (mkF m 88 #[.val (.ref b), .val (.ref a), .val (.int (0 : Int32)), .val (.int (Int32.ofNat n))] [(.ref yq57)])
  refine Wk.ald C d16_88 rfl rfl ?_
  refine Wk.dupS C d16_89 rfl ?_
  refine Wk.getF C (wd hw 32) Via.refl F103 d16_90 ?_
  show Wk _ p l e _ s m _ below meth c n0 _ h91 3 132 (mkF m 93 #[.val (.ref b), .val (.ref a), .val (.int (0 : Int32)), .val (.int (Int32.ofNat n))] [(.int (Int32.ofNat k)), (.ref b), (.ref yq57)])
  refine Wk.st (g' := (mkF m 94 #[.val (.ref b), .val (.ref a), .val (.int (0 : Int32)), .val (.int (Int32.ofNat n))] [(.int (1 : Int32)), (.int (Int32.ofNat k)), (.ref b), (.ref yq57)])) (fun X t q => XS.iconst X.here C.hx rfl (hb C.hby d16_93) q) ?_
  refine Wk.st (g' := (mkF m 95 #[.val (.ref b), .val (.ref a), .val (.int (0 : Int32)), .val (.int (Int32.ofNat n))] [(.int ((Int32.ofNat k) + (1 : Int32))), (.ref b), (.ref yq57)])) (fun X t q => XS.iadd X.here C.hx rfl (hb C.hby d16_94) rfl q) ?_
  rw [show ((Int32.ofNat k) + (1 : Int32)) = (Int32.ofNat (k + 1)) from one32 (by omega)]
  show Wk _ p l e _ s m _ below meth c n0 _ h91 3 132 (mkF m 95 #[.val (.ref b), .val (.ref a), .val (.int (0 : Int32)), .val (.int (Int32.ofNat n))] [(.int (Int32.ofNat (k + 1))), (.ref b), (.ref yq57)])
  refine Wk.st (g' := (mkF m 96 #[.val (.ref b), .val (.ref a), .val (.int (0 : Int32)), .val (.int (Int32.ofNat n))] [(.int (Int32.ofNat (k + 1))), (.ref b), (.int (Int32.ofNat (k + 1))), (.ref yq57)])) (fun X t q => XS.dupX1 X.here C.hx rfl (hb C.hby d16_95) rfl rfl rfl q) ?_
  refine Wk.putF C (wd hw 32) Via.refl F103 F100 (Or.inl (wd hw 33)) (wd hw 13) (ty := .int) (by decide) (v' := (.int (Int32.ofNat (k + 1)))) rfl rfl gb d16_96 ?_
  intro h117 W118
  have F119 : Fld Z h117 b PB "count" "I" (.int (Int32.ofNat (k + 1))) := F103.same W118
  have F120 : Sta Z h117 ST "COMPACT_STRINGS" "Z" (.int cs) := F94.wr W118
  have F121 : Exa Z h117 a ST := F95.wr W118
  have F122 : Fld Z h117 a ST "value" "[B" (.ref va) := F96.other W118 (Or.inl na)
  have F123 : Fld Z h117 a ST "coder" "B" (.int (0 : Int32)) := F97.other W118 (Or.inl na)
  have F124 : Fa Z h117 va .byte n f := F98.other W118 nva
  have F125 : Exa Z h117 va "[B" := F99.wr W118
  have F126 : Exa Z h117 b PB := F100.wr W118
  have F127 : Fa Z h117 bd .int (k + 1) ff := F101.other W118 hbb
  have F128 : Fld Z h117 b PB "text" "Ljava/lang/StringBuilder;" (.ref tq3) := F102.other W118 (Or.inr (slot_ne (Or.inl (wd hw 43)) (Or.inl (wd hw 33)) (by decide) (t := (.object SBN)) (t' := .int) (by decide) (by decide)))
  have F129 : Fld Z h117 b PB "characters" "I" (.int (Int32.ofNat ch)) := F104.other W118 (Or.inr (slot_ne (Or.inr (wd hw 26)) (Or.inl (wd hw 33)) (by decide) (t := .int) (t' := .int) (by decide) (by decide)))
  have F130 : Exa Z h117 tq3 SBN := F105.wr W118
  have F131 : Fld Z h117 tq3 AB "value" "[B" (.ref vtq4) := F106.other W118 (Or.inl (Ne.symm n1q14))
  have F132 : Fld Z h117 tq3 AB "coder" "B" (.int (0 : Int32)) := F107.other W118 (Or.inl (Ne.symm n1q14))
  have F133 : Fld Z h117 tq3 AB "count" "I" (.int (Int32.ofNat (no + n))) := F108.other W118 (Or.inl (Ne.symm n1q14))
  have F134 : Fld Z h117 tq3 AB "maybeLatin1" "Z" (.int (0 : Int32)) := F109.other W118 (Or.inl (Ne.symm n1q14))
  have F135 : Fa Z h117 vtq4 .byte cpq5 (cpf f gq6 0 no n) := F110.other W118 (Ne.symm n2q15)
  have F136 : Exa Z h117 vtq4 "[B" := F111.wr W118
  have F137 : Exa Z h117 yq57 "[I" := F112.wr W118
  have F138 : Fa Z h117 yq57 .int (k + 1 + (k + 1) / 2 + 1) (cpf ff (fun _ => .int (0 : Int32)) 0 0 (k + 1)) := F113.other W118 (Ne.symm ne63)
  have F139 : Fld Z h117 b PB "bounds" "[I" (.ref yq57) := F93.other W118 (Or.inr (slot_ne (Or.inl (wd hw 24)) (Or.inl (wd hw 33)) (by decide) (t := (.array .int)) (t' := .int) (by decide) (by decide)))
  have sz140 : n0 ≤ h117.size := Nat.le_trans sz114 (Nat.le_of_eq W118.size.symm)
  have sy141 : hp.size ≤ h117.size := Nat.le_trans sy115 (Nat.le_of_eq W118.size.symm)
  have K142 := K116.wr W118 (Or.inl (by simp))
  show Wk _ p l e _ s m _ below meth c n0 _ h117 3 132 (mkF m 99 #[.val (.ref b), .val (.ref a), .val (.int (0 : Int32)), .val (.int (Int32.ofNat n))] [(.int (Int32.ofNat (k + 1))), (.ref yq57)])
  refine Wk.ald C d16_99 rfl rfl ?_
  refine Wk.getF C (wd hw 42) Via.refl F128 d16_100 ?_
  show Wk _ p l e _ s m _ below meth c n0 _ h117 3 132 (mkF m 103 #[.val (.ref b), .val (.ref a), .val (.int (0 : Int32)), .val (.int (Int32.ofNat n))] [(.ref tq3), (.int (Int32.ofNat (k + 1))), (.ref yq57)])
  refine Wk.callV C (x := (⟨SBN, "length", "()I"⟩ : MethodName)) (z := (⟨SBN, "length", "()I"⟩ : MethodName)) (K := SBN) (wd hw 129) (wd hw 130) (wd hw 132) (wd hw 131) (wd hw 109) (wd hw 133) (by decide) (fun s' hZ' => notFace_of_selects (args := #[]) (mvT hZ' (wd hw 132))) F130 (own_slen l Z a0 hw n0 h117 tq3 vtq4 cpq5 (no + n) (cpf f gq6 0 no n) (show Sb Z h117 tq3 vtq4 cpq5 (no + n) (cpf f gq6 0 no n) from ⟨F130, F131, F132, F133, F134, F135, F136, Sq11.2.2.2.2.2.2.2.1, Sq39.2.2.2.2.2.2.2.2.1, Sq39.2.2.2.2.2.2.2.2.2.1, Sq39.2.2.2.2.2.2.2.2.2.2⟩)) (w := 2) (by decide) (by decide) pd_1 rfl (rest := [(.int (Int32.ofNat (k + 1))), (.ref yq57)]) rfl rfl (Nat.le_of_eq rfl) (by decide) (by decide) d16_103 ?_
  rintro _ _ ⟨rfl, rfl⟩
  show Wk _ p l e _ s m _ below meth c n0 _ h117 3 132 (mkF m 106 #[.val (.ref b), .val (.ref a), .val (.int (0 : Int32)), .val (.int (Int32.ofNat n))] [(.int (Int32.ofNat (no + n))), (.int (Int32.ofNat (k + 1))), (.ref yq57)])
  refine Wk.fStI C F138 (cl32 (by omega)) (nn32 (by omega)) (by omega) ge67 d16_106 ?_
  intro h143 W144 F145
  have F146 : Sta Z h143 ST "COMPACT_STRINGS" "Z" (.int cs) := F120.wr W144
  have F147 : Exa Z h143 a ST := F121.wr W144
  have F148 : Fld Z h143 a ST "value" "[B" (.ref va) := F122.other W144 (Or.inl ne61)
  have F149 : Fld Z h143 a ST "coder" "B" (.int (0 : Int32)) := F123.other W144 (Or.inl ne61)
  have F150 : Fa Z h143 va .byte n f := F124.other W144 ne62
  have F151 : Exa Z h143 va "[B" := F125.wr W144
  have F152 : Exa Z h143 b PB := F126.wr W144
  have F153 : Fa Z h143 bd .int (k + 1) ff := F127.other W144 ne64
  have F154 : Fld Z h143 b PB "text" "Ljava/lang/StringBuilder;" (.ref tq3) := F128.other W144 (Or.inl ne63)
  have F155 : Fld Z h143 b PB "characters" "I" (.int (Int32.ofNat ch)) := F129.other W144 (Or.inl ne63)
  have F156 : Exa Z h143 tq3 SBN := F130.wr W144
  have F157 : Fld Z h143 tq3 AB "value" "[B" (.ref vtq4) := F131.other W144 (Or.inl ne65)
  have F158 : Fld Z h143 tq3 AB "coder" "B" (.int (0 : Int32)) := F132.other W144 (Or.inl ne65)
  have F159 : Fld Z h143 tq3 AB "count" "I" (.int (Int32.ofNat (no + n))) := F133.other W144 (Or.inl ne65)
  have F160 : Fld Z h143 tq3 AB "maybeLatin1" "Z" (.int (0 : Int32)) := F134.other W144 (Or.inl ne65)
  have F161 : Fa Z h143 vtq4 .byte cpq5 (cpf f gq6 0 no n) := F135.other W144 ne66
  have F162 : Exa Z h143 vtq4 "[B" := F136.wr W144
  have F163 : Exa Z h143 yq57 "[I" := F137.wr W144
  have F164 : Fld Z h143 b PB "bounds" "[I" (.ref yq57) := F139.other W144 (Or.inl ne63)
  have F165 : Fld Z h143 b PB "count" "I" (.int (Int32.ofNat (k + 1))) := F119.other W144 (Or.inl ne63)
  have sz166 : n0 ≤ h143.size := Nat.le_trans sz140 (Nat.le_of_eq W144.size.symm)
  have sy167 : hp.size ≤ h143.size := Nat.le_trans sy141 (Nat.le_of_eq W144.size.symm)
  have K168 := K142.wr W144 (Or.inr gz68)
  show Wk _ p l e _ s m _ below meth c n0 _ h143 3 132 (mkF m 107 #[.val (.ref b), .val (.ref a), .val (.int (0 : Int32)), .val (.int (Int32.ofNat n))] [])
  refine Wk.ald C d16_107 rfl rfl ?_
  exact Wk.retV C (t := (.object PB)) rfl rfl (Or.inr (Or.inr (Or.inr (Or.inr ⟨rfl, rfl, rfl⟩)))) d16_108 (by decide) (by decide) ⟨rfl, K168, F152, F165, F155, yq57, F164, F145, FI.up (FI.cpf XI FI.zero (by omega)), (Ne.symm ne63), tq3, vtq4, cpq5, (cpf f gq6 0 no n), F154, (show Sb Z h143 tq3 vtq4 cpq5 (no + n) (cpf f gq6 0 no n) from ⟨F156, F157, F158, F159, F160, F161, F162, Sq11.2.2.2.2.2.2.2.1, Sq39.2.2.2.2.2.2.2.2.1, Sq39.2.2.2.2.2.2.2.2.2.1, Sq39.2.2.2.2.2.2.2.2.2.2⟩), cat_app hGq13, n1q14, n2q15, (Ne.symm ne65), (Ne.symm ne66), g1q18, g2q19⟩
theorem d13_0 : decode prog_44_method_3_code 0 = .ok (.aload_n 0, 1) := by decide +kernel
theorem d13_1 : decode prog_44_method_3_code 1 = .ok (.aload_n 1, 1) := by decide +kernel
theorem d13_2 : decode prog_44_method_3_code 2 = .ok (.iconst 0, 1) := by decide +kernel
theorem d13_3 : decode prog_44_method_3_code 3 = .ok (.aload_n 1, 1) := by decide +kernel
theorem d13_4 : decode prog_44_method_3_code 4 = .ok (.invokeinterface 23 1, 5) := by decide +kernel
theorem d13_9 : decode prog_44_method_3_code 9 = .ok (.invokevirtual 29, 3) := by decide +kernel
theorem d13_12 : decode prog_44_method_3_code 12 = .ok (.areturn, 1) := by decide +kernel
set_option maxRecDepth 65536 in
set_option maxHeartbeats 40000000 in
theorem own_add (l : Launch) (Z : State) (a0 : Array Value) (hw : ∀ d ∈ tables_1, d.before a0 Z = true) (n0 : Nat) (h0 : Heap) (cs : Int32) (SC : Sta Z h0 ST "COMPACT_STRINGS" "Z" (.int cs)) (hcs : ¬ cs = (0 : Int32)) (hp : Heap) (hlo : hp.size ≤ h0.size) (hn0 : n0 ≤ hp.size) (b : Addr) (gb : n0 ≤ b) (k ch no : Nat) (G ff : Nat → Value) (H : BB Z h0 b k (k + 1) ff ch (fun bd => Tx Z h0 hp b bd no G)) (a va : Addr) (n : Nat) (f : Nat → Value) (S : Str Z h0 a va n f) (ha : a < hp.size) (hva : va < hp.size) (na : a ≠ b) (nva : va ≠ b) (hch : ch ≤ 64) (hno : no ≤ 8) (hnn : n ≤ 8) (hk : k ≤ 8) :
    Met false l Z n0 (⟨PB, "add", "(Ljava/lang/CharSequence;)Lcom/example/amendatory/amendatory/Paragraphs$Builder;"⟩ : MethodName) prog_44_method_3_code 2 (some (.object PB)) ({ frames := 9, cells := 3, slots := 132, locals := 137 } : Room) #[(.ref b), (.ref a)] h0 (fun r h => r = some (.ref b) ∧ Kq hp b h0 h ∧ BB Z h b (k + 1) (k + 1 + (k + 1) / 2 + 1) (up (cpf ff (fun _ => .int (0 : Int32)) 0 0 (k + 1)) (k + 1) (.int (Int32.ofNat (no + n)))) ch (fun bd => Tq Z h hp b bd (no + n) (cat2 G f no))) := by
  refine Met.of (plainFor_of_name pn_7) #[.val (.ref b), .val (.ref a)] (fun m => by first | (simp [entryFrame, mkF, argsToLocals, Value.category]; done) | rfl) ?_
  intro p e s m below meth c C
  refine Wk.ald C d13_0 rfl rfl ?_
  refine Wk.ald C d13_1 rfl rfl ?_
  refine Wk.st (g' := (mkF m 3 #[.val (.ref b), .val (.ref a)] [(.int (0 : Int32)), (.ref a), (.ref b)])) (fun X t q => XS.iconst X.here C.hx rfl (hb C.hby d13_2) q) ?_
  refine Wk.ald C d13_3 rfl rfl ?_
  refine Wk.callF C (x := (⟨"java/lang/CharSequence", "length", "()I"⟩ : MethodName)) (z := (⟨ST, "length", "()I"⟩ : MethodName)) (K := ST) (wd hw 84) (wd hw 85) (fun hZ' => mvT hZ' (wd hw 86)) (wd hw 87) (wd hw 88) (fun hZ' => mvT hZ' (wd hw 89)) (fun hZ' => mvT hZ' (wd hw 90)) (fun hZ' => mvT hZ' (wd hw 91)) (wd hw 5) (wd hw 92) (by decide) S.1 (own_len l Z a0 hw n0 h0 cs SC hcs a va n f S) (w := 3) (by decide) (by decide) pd_1 rfl (rest := [(.int (0 : Int32)), (.ref a), (.ref b)]) rfl rfl (Nat.le_of_eq rfl) (by decide) (by decide) d13_4 ?_
  rintro _ _ ⟨rfl, rfl⟩
  show Wk _ p l e _ s m _ below meth c n0 _ h0 0 0 (mkF m 9 #[.val (.ref b), .val (.ref a)] [(.int (Int32.ofNat n)), (.int (0 : Int32)), (.ref a), (.ref b)])
  refine Wk.callV C (x := (⟨PB, "add", "(Ljava/lang/CharSequence;II)Lcom/example/amendatory/amendatory/Paragraphs$Builder;"⟩ : MethodName)) (z := (⟨PB, "add", "(Ljava/lang/CharSequence;II)Lcom/example/amendatory/amendatory/Paragraphs$Builder;"⟩ : MethodName)) (K := PB) (wd hw 98) (wd hw 99) (wd hw 101) (wd hw 100) (wd hw 14) (wd hw 102) (by decide) (fun s' hZ' => notFace_of_selects (args := #[]) (mvT hZ' (wd hw 101))) H.1 (own_add3 l Z a0 hw n0 h0 cs SC hcs hp hlo hn0 b gb k ch no G ff H a va n f S ha hva na nva hch hno hnn hk) (w := 0) (by decide) (by decide) pd_21 rfl (rest := []) rfl rfl (Nat.le_of_eq rfl) (by decide) (by decide) d13_9 ?_
  rintro _ h1 ⟨rfl, K1, B1⟩
  show Wk _ p l e _ s m _ below meth c n0 _ h1 3 132 (mkF m 12 #[.val (.ref b), .val (.ref a)] [(.ref b)])
  exact Wk.retV C (t := (.object PB)) rfl rfl (Or.inr (Or.inr (Or.inr (Or.inr ⟨rfl, rfl, rfl⟩)))) d13_12 (by decide) (by decide) ⟨rfl, K1, B1⟩
theorem d4_0 : decode prog_44_method_11_code 0 = .ok (.aload_n 0, 1) := by decide +kernel
theorem d4_1 : decode prog_44_method_11_code 1 = .ok (.getfield 49, 3) := by decide +kernel
theorem d4_4 : decode prog_44_method_11_code 4 = .ok (.ifCond .ne 9, 3) := by decide +kernel
theorem d4_7 : decode prog_44_method_11_code 7 = .ok (.getstatic 106, 3) := by decide +kernel
theorem d4_10 : decode prog_44_method_11_code 10 = .ok (.goto 26, 3) := by decide +kernel
theorem d4_13 : decode prog_44_method_11_code 13 = .ok (.new 59, 3) := by decide +kernel
theorem d4_16 : decode prog_44_method_11_code 16 = .ok (.dup, 1) := by decide +kernel
theorem d4_17 : decode prog_44_method_11_code 17 = .ok (.aload_n 0, 1) := by decide +kernel
theorem d4_18 : decode prog_44_method_11_code 18 = .ok (.getfield 36, 3) := by decide +kernel
theorem d4_21 : decode prog_44_method_11_code 21 = .ok (.invokevirtual 110, 3) := by decide +kernel
theorem d4_24 : decode prog_44_method_11_code 24 = .ok (.aload_n 0, 1) := by decide +kernel
theorem d4_25 : decode prog_44_method_11_code 25 = .ok (.getfield 16, 3) := by decide +kernel
theorem d4_28 : decode prog_44_method_11_code 28 = .ok (.iconst 0, 1) := by decide +kernel
theorem d4_29 : decode prog_44_method_11_code 29 = .ok (.aload_n 0, 1) := by decide +kernel
theorem d4_30 : decode prog_44_method_11_code 30 = .ok (.getfield 49, 3) := by decide +kernel
theorem d4_33 : decode prog_44_method_11_code 33 = .ok (.invokespecial 114, 3) := by decide +kernel
theorem d4_36 : decode prog_44_method_11_code 36 = .ok (.areturn, 1) := by decide +kernel
set_option maxRecDepth 65536 in
set_option maxHeartbeats 40000000 in
theorem own_bld0 (l : Launch) (Z : State) (a0 : Array Value) (hw : ∀ d ∈ tables_1, d.before a0 Z = true) (n0 : Nat) (h0 : Heap) (b nn : Addr) (F1 : Fld Z h0 b PB "count" "I" (.int (0 : Int32))) (NN : Sta Z h0 PP "NONE" "Lcom/example/amendatory/amendatory/Paragraphs;" (.ref nn)) :
    Met false l Z n0 (⟨PB, "build", "()Lcom/example/amendatory/amendatory/Paragraphs;"⟩ : MethodName) prog_44_method_11_code 1 (some (.object PP)) ({ frames := 0, cells := 0, slots := 0, locals := 0 } : Room) #[(.ref b)] h0 (fun r h => r = some (.ref nn) ∧ h0 = h) := by
  refine Met.of (plainFor_of_name pn_7) #[.val (.ref b)] (fun m => by first | (simp [entryFrame, mkF, argsToLocals, Value.category]; done) | rfl) ?_
  intro p e s m below meth c C
  refine Wk.ald C d4_0 rfl rfl ?_
  refine Wk.getF C (wd hw 32) Via.refl F1 d4_1 ?_
  show Wk _ p l e _ s m _ below meth c n0 _ h0 0 0 (mkF m 4 #[.val (.ref b)] [(.int (0 : Int32))])
  refine Wk.ifN C d4_4 (XT.i0_ne_f (by decide)) ?_
  refine Wk.getS C (wd hw 34) NN d4_7 ?_
  show Wk _ p l e _ s m _ below meth c n0 _ h0 0 0 (mkF m 10 #[.val (.ref b)] [(.ref nn)])
  refine Wk.gto C (pc' := 36) d4_10 (by decide) (by decide) ?_
  exact Wk.retV C (t := (.object PP)) rfl rfl (Or.inr (Or.inr (Or.inr (Or.inr ⟨rfl, rfl, rfl⟩)))) d4_36 (by decide) (by decide) ⟨rfl, rfl⟩
set_option maxRecDepth 65536 in
set_option maxHeartbeats 40000000 in
theorem own_bld1 (l : Launch) (Z : State) (a0 : Array Value) (hw : ∀ d ∈ tables_1, d.before a0 Z = true) (n0 : Nat) (h0 : Heap) (cs : Int32) (SC : Sta Z h0 ST "COMPACT_STRINGS" "Z" (.int cs)) (hcs : ¬ cs = (0 : Int32)) (hp : Heap) (b : Addr) (k M no ch : Nat) (G ff : Nat → Value) (H : BB Z h0 b k M ff ch (fun bd => Tq Z h0 hp b bd no G)) (hsz : n0 ≤ h0.size) (hk : 0 < k) (hk2 : k ≤ 8) (hno : no ≤ 64) :
    Met false l Z n0 (⟨PB, "build", "()Lcom/example/amendatory/amendatory/Paragraphs;"⟩ : MethodName) prog_44_method_11_code 1 (some (.object PP)) ({ frames := 6, cells := 3, slots := 73, locals := 102 } : Room) #[(.ref b)] h0 (fun r h => ∃ q x vx bd : Addr, r = some (.ref q) ∧ Keep h0 h [] ∧ Pa Z h q x vx bd k M no G ff ∧ h0.size ≤ q ∧ h0.size ≤ x ∧ h0.size ≤ vx ∧ bd ≠ b) := by
  refine Met.of (plainFor_of_name pn_7) #[.val (.ref b)] (fun m => by first | (simp [entryFrame, mkF, argsToLocals, Value.category]; done) | rfl) ?_
  intro p e s m below meth c C
  obtain ⟨E0, F1, F2, bd, F3, F4, XI, hbb, t, vt, cp, g, T0, B, hG, x1, x2, x3, x4, x5, x6⟩ := H
  refine Wk.ald C d4_0 rfl rfl ?_
  refine Wk.getF C (wd hw 32) Via.refl F1 d4_1 ?_
  show Wk _ p l e _ s m _ below meth c n0 _ h0 0 0 (mkF m 4 #[.val (.ref b)] [(.int (Int32.ofNat k))])
  refine Wk.ifY C (pc' := 13) d4_4 (XT.i0_ne_t (fun q => by have := is0 (by omega) q; omega)) (by decide) (by decide) ?_
  refine Wk.newO C (wd hw 210) (wd hw 211) (wd hw 35) d4_13 (by decide) (by decide) ?_
  intro h1 b2 g3 E4 A5 D6
  have ne7 : b ≠ b2 := Nat.ne_of_lt (Nat.lt_of_lt_of_le E0.lt (Nat.le_of_eq g3.symm))
  have ne8 : bd ≠ b2 := Nat.ne_of_lt (Nat.lt_of_lt_of_le F4.lt (Nat.le_of_eq g3.symm))
  have ne9 : t ≠ b2 := Nat.ne_of_lt (Nat.lt_of_lt_of_le B.1.lt (Nat.le_of_eq g3.symm))
  have ne10 : vt ≠ b2 := Nat.ne_of_lt (Nat.lt_of_lt_of_le B.2.2.2.2.2.1.lt (Nat.le_of_eq g3.symm))
  have ge11 : n0 ≤ b2 := Nat.le_trans hsz (Nat.le_of_eq g3.symm)
  have gz12 : h0.size ≤ b2 := Nat.le_trans (Nat.le_refl h0.size) (Nat.le_of_eq g3.symm)
  have F13 : Sta Z h1 ST "COMPACT_STRINGS" "Z" (.int cs) := SC.ext E4
  have F14 : Exa Z h1 b PB := E0.ext E4
  have F15 : Fld Z h1 b PB "text" "Ljava/lang/StringBuilder;" (.ref t) := T0.ext E4
  have F16 : Fld Z h1 b PB "bounds" "[I" (.ref bd) := F3.ext E4
  have F17 : Fld Z h1 b PB "count" "I" (.int (Int32.ofNat k)) := F1.ext E4
  have F18 : Fld Z h1 b PB "characters" "I" (.int (Int32.ofNat ch)) := F2.ext E4
  have F19 : Fa Z h1 bd .int M ff := F4.ext E4
  have F20 : Exa Z h1 t SBN := B.1.ext E4
  have F21 : Fld Z h1 t AB "value" "[B" (.ref vt) := B.2.1.ext E4
  have F22 : Fld Z h1 t AB "coder" "B" (.int (0 : Int32)) := B.2.2.1.ext E4
  have F23 : Fld Z h1 t AB "count" "I" (.int (Int32.ofNat no)) := B.2.2.2.1.ext E4
  have F24 : Fld Z h1 t AB "maybeLatin1" "Z" (.int (0 : Int32)) := B.2.2.2.2.1.ext E4
  have F25 : Fa Z h1 vt .byte cp g := B.2.2.2.2.2.1.ext E4
  have F26 : Exa Z h1 vt "[B" := B.2.2.2.2.2.2.1.ext E4
  have sz27 : n0 ≤ h1.size := Nat.le_trans hsz E4.1
  have sy28 : h0.size ≤ h1.size := Nat.le_trans (Nat.le_refl h0.size) E4.1
  have K29 := (Keep.refl h0 []).ext E4
  have F30 : Fld Z h1 b2 PP "to" "I" (.int (0 : Int32)) := D6 (Or.inr (wd hw 53)) (ty := .int) (by decide)
  have F31 : Fld Z h1 b2 PP "from" "I" (.int (0 : Int32)) := D6 (Or.inr (wd hw 55)) (ty := .int) (by decide)
  have F32 : Fld Z h1 b2 "java/util/AbstractList" "modCount" "I" (.int (0 : Int32)) := D6 (Or.inl (wd hw 261)) (ty := .int) (by decide)
  have F33 : Fld Z h1 b2 PP "text" "Ljava/lang/String;" .null := D6 (Or.inr (wd hw 263)) (ty := (.object ST)) (by decide)
  have F34 : Fld Z h1 b2 PP "bounds" "[I" .null := D6 (Or.inr (wd hw 265)) (ty := (.array .int)) (by decide)
  show Wk _ p l e _ s m _ below meth c n0 _ h1 1 5 (mkF m 16 #[.val (.ref b)] [(.ref b2)])
  refine Wk.dupS C d4_16 rfl ?_
  refine Wk.ald C d4_17 rfl rfl ?_
  refine Wk.getF C (wd hw 42) Via.refl F15 d4_18 ?_
  show Wk _ p l e _ s m _ below meth c n0 _ h1 1 5 (mkF m 21 #[.val (.ref b)] [(.ref t), (.ref b2), (.ref b2)])
  refine Wk.callV C (x := (⟨SBN, "toString", "()Ljava/lang/String;"⟩ : MethodName)) (z := (⟨SBN, "toString", "()Ljava/lang/String;"⟩ : MethodName)) (K := SBN) (wd hw 212) (wd hw 213) (wd hw 215) (wd hw 214) (wd hw 109) (wd hw 216) (by decide) (fun s' hZ' => notFace_of_selects (args := #[]) (mvT hZ' (wd hw 215))) F20 (own_tos l Z a0 hw n0 h1 cs F13 hcs t vt cp no g (show Sb Z h1 t vt cp no g from ⟨F20, F21, F22, F23, F24, F25, F26, B.2.2.2.2.2.2.2.1, B.2.2.2.2.2.2.2.2.1, B.2.2.2.2.2.2.2.2.2.1, B.2.2.2.2.2.2.2.2.2.2⟩) sz27 hno) (w := 2) (by decide) (by decide) pd_22 rfl (rest := [(.ref b2), (.ref b2)]) rfl rfl (Nat.le_of_eq rfl) (by decide) (by decide) d4_21 ?_
  rintro _ h35 ⟨yq37, vyq38, rfl, K36, g1q39, g2q40, Sq41⟩
  show Wk _ p l e _ s m _ below meth c n0 _ h35 3 73 (mkF m 24 #[.val (.ref b)] [(.ref yq37), (.ref b2), (.ref b2)])
  have ne42 : b ≠ yq37 := Nat.ne_of_lt (Nat.lt_of_lt_of_le (F14).lt g1q39)
  have ne43 : bd ≠ yq37 := Nat.ne_of_lt (Nat.lt_of_lt_of_le (F19).lt g1q39)
  have ne44 : t ≠ yq37 := Nat.ne_of_lt (Nat.lt_of_lt_of_le (F20).lt g1q39)
  have ne45 : vt ≠ yq37 := Nat.ne_of_lt (Nat.lt_of_lt_of_le (F25).lt g1q39)
  have ne46 : b2 ≠ yq37 := Nat.ne_of_lt (Nat.lt_of_lt_of_le (A5).lt g1q39)
  have ge47 : n0 ≤ yq37 := Nat.le_trans sz27 g1q39
  have gz48 : h0.size ≤ yq37 := Nat.le_trans sy28 g1q39
  have ne49 : b ≠ vyq38 := Nat.ne_of_lt (Nat.lt_of_lt_of_le (F14).lt g2q40)
  have ne50 : bd ≠ vyq38 := Nat.ne_of_lt (Nat.lt_of_lt_of_le (F19).lt g2q40)
  have ne51 : t ≠ vyq38 := Nat.ne_of_lt (Nat.lt_of_lt_of_le (F20).lt g2q40)
  have ne52 : vt ≠ vyq38 := Nat.ne_of_lt (Nat.lt_of_lt_of_le (F25).lt g2q40)
  have ne53 : b2 ≠ vyq38 := Nat.ne_of_lt (Nat.lt_of_lt_of_le (A5).lt g2q40)
  have ge54 : n0 ≤ vyq38 := Nat.le_trans sz27 g2q40
  have gz55 : h0.size ≤ vyq38 := Nat.le_trans sy28 g2q40
  have F56 : Sta Z h35 ST "COMPACT_STRINGS" "Z" (.int cs) := sta_keep F13 K36 nv0
  have F57 : Exa Z h35 b PB := F14.keep K36
  have F58 : Fld Z h35 b PB "text" "Ljava/lang/StringBuilder;" (.ref t) := F15.keep K36 nm0
  have F59 : Fld Z h35 b PB "bounds" "[I" (.ref bd) := F16.keep K36 nm0
  have F60 : Fld Z h35 b PB "count" "I" (.int (Int32.ofNat k)) := F17.keep K36 nm0
  have F61 : Fld Z h35 b PB "characters" "I" (.int (Int32.ofNat ch)) := F18.keep K36 nm0
  have F62 : Fa Z h35 bd .int M ff := F19.keep K36 nm0
  have F63 : Exa Z h35 t SBN := F20.keep K36
  have F64 : Fld Z h35 t AB "value" "[B" (.ref vt) := F21.keep K36 nm0
  have F65 : Fld Z h35 t AB "coder" "B" (.int (0 : Int32)) := F22.keep K36 nm0
  have F66 : Fld Z h35 t AB "count" "I" (.int (Int32.ofNat no)) := F23.keep K36 nm0
  have F67 : Fld Z h35 t AB "maybeLatin1" "Z" (.int (0 : Int32)) := F24.keep K36 nm0
  have F68 : Fa Z h35 vt .byte cp g := F25.keep K36 nm0
  have F69 : Exa Z h35 vt "[B" := F26.keep K36
  have F70 : Exa Z h35 b2 PP := A5.keep K36
  have F71 : Fld Z h35 b2 PP "to" "I" (.int (0 : Int32)) := F30.keep K36 nm0
  have F72 : Fld Z h35 b2 PP "from" "I" (.int (0 : Int32)) := F31.keep K36 nm0
  have F73 : Fld Z h35 b2 "java/util/AbstractList" "modCount" "I" (.int (0 : Int32)) := F32.keep K36 nm0
  have F74 : Fld Z h35 b2 PP "text" "Ljava/lang/String;" .null := F33.keep K36 nm0
  have F75 : Fld Z h35 b2 PP "bounds" "[I" .null := F34.keep K36 nm0
  have sz76 : n0 ≤ h35.size := Nat.le_trans sz27 K36.1
  have sy77 : h0.size ≤ h35.size := Nat.le_trans sy28 K36.1
  have K78 := K29.trans K36 nv0
  refine Wk.ald C d4_24 rfl rfl ?_
  refine Wk.getF C (wd hw 23) Via.refl F59 d4_25 ?_
  show Wk _ p l e _ s m _ below meth c n0 _ h35 3 73 (mkF m 28 #[.val (.ref b)] [(.ref bd), (.ref yq37), (.ref b2), (.ref b2)])
  refine Wk.st (g' := (mkF m 29 #[.val (.ref b)] [(.int (0 : Int32)), (.ref bd), (.ref yq37), (.ref b2), (.ref b2)])) (fun X t q => XS.iconst X.here C.hx rfl (hb C.hby d4_28) q) ?_
  refine Wk.ald C d4_29 rfl rfl ?_
  refine Wk.getF C (wd hw 32) Via.refl F60 d4_30 ?_
  show Wk _ p l e _ s m _ below meth c n0 _ h35 3 73 (mkF m 33 #[.val (.ref b)] [(.int (Int32.ofNat k)), (.int (0 : Int32)), (.ref bd), (.ref yq37), (.ref b2), (.ref b2)])
  refine Wk.callN C (z := (⟨PP, "<init>", "(Ljava/lang/String;[III)V"⟩ : MethodName)) (host := PP) rfl (fun hZ' => mvM hZ' (wd hw 245)) (wd hw 246) (wd hw 35) (wd hw 247) (by decide) (own_pin l Z a0 hw n0 h35 b2 ge11 F70 F73 F71 F72 F74 F75 yq37 bd k) (w := 1) (by decide) (by decide) pd_23 rfl (rest := [(.ref b2)]) rfl rfl (Nat.le_of_eq rfl) (by decide) (by decide) d4_33 ?_
  rintro _ h79 ⟨rfl, K80, Aq81, Bq82, Cq83, Dq84⟩
  show Wk _ p l e _ s m _ below meth c n0 _ h79 3 73 (mkF m 36 #[.val (.ref b)] [(.ref b2)])
  have F85 : Sta Z h79 ST "COMPACT_STRINGS" "Z" (.int cs) := sta_keep F56 K80 (nvS (exa_ns F70) nv0)
  have F86 : Exa Z h79 b PB := F57.keep K80
  have F87 : Fld Z h79 b PB "text" "Ljava/lang/StringBuilder;" (.ref t) := F58.keep K80 (nmS ne7 nm0)
  have F88 : Fld Z h79 b PB "bounds" "[I" (.ref bd) := F59.keep K80 (nmS ne7 nm0)
  have F89 : Fld Z h79 b PB "count" "I" (.int (Int32.ofNat k)) := F60.keep K80 (nmS ne7 nm0)
  have F90 : Fld Z h79 b PB "characters" "I" (.int (Int32.ofNat ch)) := F61.keep K80 (nmS ne7 nm0)
  have F91 : Fa Z h79 bd .int M ff := F62.keep K80 (nmS ne8 nm0)
  have F92 : Exa Z h79 t SBN := F63.keep K80
  have F93 : Fld Z h79 t AB "value" "[B" (.ref vt) := F64.keep K80 (nmS ne9 nm0)
  have F94 : Fld Z h79 t AB "coder" "B" (.int (0 : Int32)) := F65.keep K80 (nmS ne9 nm0)
  have F95 : Fld Z h79 t AB "count" "I" (.int (Int32.ofNat no)) := F66.keep K80 (nmS ne9 nm0)
  have F96 : Fld Z h79 t AB "maybeLatin1" "Z" (.int (0 : Int32)) := F67.keep K80 (nmS ne9 nm0)
  have F97 : Fa Z h79 vt .byte cp g := F68.keep K80 (nmS ne10 nm0)
  have F98 : Exa Z h79 vt "[B" := F69.keep K80
  have F99 : Exa Z h79 b2 PP := F70.keep K80
  have F100 : Exa Z h79 yq37 ST := Sq41.1.keep K80
  have F101 : Fld Z h79 yq37 ST "value" "[B" (.ref vyq38) := Sq41.2.1.keep K80 (nmS (Ne.symm ne46) nm0)
  have F102 : Fld Z h79 yq37 ST "coder" "B" (.int (0 : Int32)) := Sq41.2.2.1.keep K80 (nmS (Ne.symm ne46) nm0)
  have F103 : Fa Z h79 vyq38 .byte no g := Sq41.2.2.2.1.keep K80 (nmS (Ne.symm ne53) nm0)
  have F104 : Exa Z h79 vyq38 "[B" := Sq41.2.2.2.2.1.keep K80
  have sz105 : n0 ≤ h79.size := Nat.le_trans sz76 K80.1
  have sy106 : h0.size ≤ h79.size := Nat.le_trans sy77 K80.1
  have K107 := K78.trans K80 (nvS (Or.inr gz12) nv0)
  exact Wk.retV C (t := (.object PP)) rfl rfl (Or.inr (Or.inr (Or.inr (Or.inr ⟨rfl, rfl, rfl⟩)))) d4_36 (by decide) (by decide) ⟨b2, yq37, vyq38, bd, rfl, K107, ⟨F99, Aq81, Bq82, Cq83, Dq84, (show Str Z h79 yq37 vyq38 no g from ⟨F100, F101, F102, F103, F104, Sq41.2.2.2.2.2⟩).congr hG, F91⟩, gz12, gz48, gz55, hbb⟩
theorem d7_0 : decode prog_43_method_4_code 0 = .ok (.aload_n 0, 1) := by decide +kernel
theorem d7_1 : decode prog_43_method_4_code 1 = .ok (.getfield 21, 3) := by decide +kernel
theorem d7_4 : decode prog_43_method_4_code 4 = .ok (.aload_n 0, 1) := by decide +kernel
theorem d7_5 : decode prog_43_method_4_code 5 = .ok (.getfield 17, 3) := by decide +kernel
theorem d7_8 : decode prog_43_method_4_code 8 = .ok (.isub, 1) := by decide +kernel
theorem d7_9 : decode prog_43_method_4_code 9 = .ok (.ireturn, 1) := by decide +kernel
set_option maxRecDepth 65536 in
set_option maxHeartbeats 40000000 in
theorem own_size (l : Launch) (Z : State) (a0 : Array Value) (hw : ∀ d ∈ tables_1, d.before a0 Z = true) (n0 : Nat) (h0 : Heap) (q : Addr) (k : Nat) (P1 : Fld Z h0 q PP "to" "I" (.int (Int32.ofNat k))) (P2 : Fld Z h0 q PP "from" "I" (.int (0 : Int32))) :
    Met false l Z n0 (⟨PP, "size", "()I"⟩ : MethodName) prog_43_method_4_code 1 (some .int) ({ frames := 0, cells := 0, slots := 0, locals := 0 } : Room) #[(.ref q)] h0 (fun r h => r = some (.int (Int32.ofNat k)) ∧ h0 = h) := by
  refine Met.of (plainFor_of_name pn_6) #[.val (.ref q)] (fun m => by first | (simp [entryFrame, mkF, argsToLocals, Value.category]; done) | rfl) ?_
  intro p e s m below meth c C
  refine Wk.ald C d7_0 rfl rfl ?_
  refine Wk.getF C (wd hw 52) Via.refl P1 d7_1 ?_
  show Wk _ p l e _ s m _ below meth c n0 _ h0 0 0 (mkF m 4 #[.val (.ref q)] [(.int (Int32.ofNat k))])
  refine Wk.ald C d7_4 rfl rfl ?_
  refine Wk.getF C (wd hw 54) Via.refl P2 d7_5 ?_
  show Wk _ p l e _ s m _ below meth c n0 _ h0 0 0 (mkF m 8 #[.val (.ref q)] [(.int (0 : Int32)), (.int (Int32.ofNat k))])
  refine Wk.st (g' := (mkF m 9 #[.val (.ref q)] [(.int ((Int32.ofNat k) - (0 : Int32)))])) (fun X t q => XS.isub X.here C.hx rfl (hb C.hby d7_8) rfl q) ?_
  rw [show ((Int32.ofNat k) - (0 : Int32)) = (Int32.ofNat k) from sz32 _]
  show Wk _ p l e _ s m _ below meth c n0 _ h0 0 0 (mkF m 9 #[.val (.ref q)] [(.int (Int32.ofNat k))])
  exact Wk.retV C (t := .int) rfl rfl (Or.inl ⟨rfl, by simp, _, rfl⟩) d7_9 (by decide) (by decide) ⟨rfl, rfl⟩
theorem d52_0 : decode jdk_43_method_13_code 0 = .ok (.aload_n 0, 1) := by decide +kernel
theorem d52_1 : decode jdk_43_method_13_code 1 = .ok (.arraylength, 1) := by decide +kernel
theorem d52_2 : decode jdk_43_method_13_code 2 = .ok (.aload_n 1, 1) := by decide +kernel
theorem d52_3 : decode jdk_43_method_13_code 3 = .ok (.arraylength, 1) := by decide +kernel
theorem d52_4 : decode jdk_43_method_13_code 4 = .ok (.if_icmp .ne 30, 3) := by decide +kernel
theorem d52_7 : decode jdk_43_method_13_code 7 = .ok (.iconst 0, 1) := by decide +kernel
theorem d52_8 : decode jdk_43_method_13_code 8 = .ok (.istore_n 2, 1) := by decide +kernel
theorem d52_9 : decode jdk_43_method_13_code 9 = .ok (.iload_n 2, 1) := by decide +kernel
theorem d52_10 : decode jdk_43_method_13_code 10 = .ok (.aload_n 0, 1) := by decide +kernel
theorem d52_11 : decode jdk_43_method_13_code 11 = .ok (.arraylength, 1) := by decide +kernel
theorem d52_12 : decode jdk_43_method_13_code 12 = .ok (.if_icmp .ge 20, 3) := by decide +kernel
theorem d52_15 : decode jdk_43_method_13_code 15 = .ok (.aload_n 0, 1) := by decide +kernel
theorem d52_16 : decode jdk_43_method_13_code 16 = .ok (.iload_n 2, 1) := by decide +kernel
theorem d52_17 : decode jdk_43_method_13_code 17 = .ok (.baload, 1) := by decide +kernel
theorem d52_18 : decode jdk_43_method_13_code 18 = .ok (.aload_n 1, 1) := by decide +kernel
theorem d52_19 : decode jdk_43_method_13_code 19 = .ok (.iload_n 2, 1) := by decide +kernel
theorem d52_20 : decode jdk_43_method_13_code 20 = .ok (.baload, 1) := by decide +kernel
theorem d52_21 : decode jdk_43_method_13_code 21 = .ok (.if_icmp .eq 5, 3) := by decide +kernel
theorem d52_26 : decode jdk_43_method_13_code 26 = .ok (.iinc 2 1, 3) := by decide +kernel
theorem d52_29 : decode jdk_43_method_13_code 29 = .ok (.goto (-20), 3) := by decide +kernel
theorem d52_32 : decode jdk_43_method_13_code 32 = .ok (.iconst 1, 1) := by decide +kernel
theorem d52_33 : decode jdk_43_method_13_code 33 = .ok (.ireturn, 1) := by decide +kernel
set_option maxRecDepth 65536 in
set_option maxHeartbeats 40000000 in
theorem own_eqL (l : Launch) (Z : State) (a0 : Array Value) (hw : ∀ d ∈ tables_1, d.before a0 Z = true) (n0 : Nat) (h0 : Heap) (x y : Addr) (n : Nat) (φ : Nat → Int32) (X0 : Fa Z h0 x .byte n (fun i => .int (φ i))) (Y0 : Fa Z h0 y .byte n (fun i => .int (φ i))) (hn : n < 1000) :
    Met false l Z n0 (⟨"java/lang/StringLatin1", "equals", "([B[B)Z"⟩ : MethodName) jdk_43_method_13_code 3 (some .boolean) ({ frames := 0, cells := 0, slots := 0, locals := 0 } : Room) #[(.ref x), (.ref y)] h0 (fun r h => r = some (.int (1 : Int32)) ∧ h0 = h) := by
  refine Met.of (plainFor_of_name pn_8) #[.val (.ref x), .val (.ref y), .unset] (fun m => by first | (simp [entryFrame, mkF, argsToLocals, Value.category]; done) | rfl) ?_
  intro p e s m below meth c C
  have k9 : ∀ j i : Nat, i + j = n → Wk false p l e ({ frames := 0, cells := 0, slots := 0, locals := 0 } : Room) s m #[(.ref x), (.ref y)] below meth c n0 (fun r h => r = some (.int (1 : Int32)) ∧ h0 = h) h0 0 0 (mkF m 9 #[.val (.ref x), .val (.ref y), .val (.int (Int32.ofNat i))] []) := by
    intro j
    induction j with
    | zero =>
      intro i hi
      refine Wk.ild C d52_9 rfl ?_
      refine Wk.ald C d52_10 rfl rfl ?_
      refine Wk.fLen C X0 (z := (Int32.ofNat n)) rfl d52_11 ?_
      show Wk _ p l e _ s m _ below meth c n0 _ h0 0 0 (mkF m 12 #[.val (.ref x), .val (.ref y), .val (.int (Int32.ofNat i))] [(.int (Int32.ofNat n)), (.int (Int32.ofNat i))])
      refine Wk.icY C (pc' := 32) d52_12 (XT.ii_ge_t (mt (lt32 (by omega) (by omega)).mp (by omega))) (by decide) (by decide) ?_
      refine Wk.st (g' := (mkF m 33 #[.val (.ref x), .val (.ref y), .val (.int (Int32.ofNat i))] [(.int (1 : Int32))])) (fun X t q => XS.iconst X.here C.hx rfl (hb C.hby d52_32) q) ?_
      exact Wk.retV C (t := .boolean) rfl rfl (Or.inl ⟨rfl, by simp, _, rfl⟩) d52_33 (by decide) (by decide) ⟨rfl, rfl⟩
    | succ j ih =>
      intro i hi
      refine Wk.ild C d52_9 rfl ?_
      refine Wk.ald C d52_10 rfl rfl ?_
      refine Wk.fLen C X0 (z := (Int32.ofNat n)) rfl d52_11 ?_
      show Wk _ p l e _ s m _ below meth c n0 _ h0 0 0 (mkF m 12 #[.val (.ref x), .val (.ref y), .val (.int (Int32.ofNat i))] [(.int (Int32.ofNat n)), (.int (Int32.ofNat i))])
      refine Wk.icN C d52_12 (XT.ii_ge_f ((lt32 (by omega) (by omega)).mpr (by omega))) ?_
      refine Wk.ald C d52_15 rfl rfl ?_
      refine Wk.ild C d52_16 rfl ?_
      refine Wk.fLdB C X0 (cl32 (by omega)) (nn32 (by omega)) (by omega) (v := (.int (φ i))) rfl d52_17 ?_
      show Wk _ p l e _ s m _ below meth c n0 _ h0 0 0 (mkF m 18 #[.val (.ref x), .val (.ref y), .val (.int (Int32.ofNat i))] [(.int (φ i))])
      refine Wk.ald C d52_18 rfl rfl ?_
      refine Wk.ild C d52_19 rfl ?_
      refine Wk.fLdB C Y0 (cl32 (by omega)) (nn32 (by omega)) (by omega) (v := (.int (φ i))) rfl d52_20 ?_
      show Wk _ p l e _ s m _ below meth c n0 _ h0 0 0 (mkF m 21 #[.val (.ref x), .val (.ref y), .val (.int (Int32.ofNat i))] [(.int (φ i)), (.int (φ i))])
      refine Wk.icY C (pc' := 26) d52_21 (XT.ii_eq_t rfl) (by decide) (by decide) ?_
      refine Wk.st (g' := (mkF m 29 #[.val (.ref x), .val (.ref y), .val (.int ((Int32.ofNat i) + (1 : Int32)))] [])) (fun X t q => XS.iinc X.here C.hx rfl (hb C.hby d52_26) rfl (l' := #[.val (.ref x), .val (.ref y), .val (.int ((Int32.ofNat i) + (1 : Int32)))]) rfl q) ?_
      rw [show ((Int32.ofNat i) + (1 : Int32)) = (Int32.ofNat (i + 1)) from one32 (by omega)]
      show Wk _ p l e _ s m _ below meth c n0 _ h0 0 0 (mkF m 29 #[.val (.ref x), .val (.ref y), .val (.int (Int32.ofNat (i + 1)))] [])
      refine Wk.gto C (pc' := 9) d52_29 (by decide) (by decide) ?_
      exact ih (i + 1) (by omega)
  refine Wk.ald C d52_0 rfl rfl ?_
  refine Wk.fLen C X0 (z := (Int32.ofNat n)) rfl d52_1 ?_
  show Wk _ p l e _ s m _ below meth c n0 _ h0 0 0 (mkF m 2 #[.val (.ref x), .val (.ref y), .unset] [(.int (Int32.ofNat n))])
  refine Wk.ald C d52_2 rfl rfl ?_
  refine Wk.fLen C Y0 (z := (Int32.ofNat n)) rfl d52_3 ?_
  show Wk _ p l e _ s m _ below meth c n0 _ h0 0 0 (mkF m 4 #[.val (.ref x), .val (.ref y), .unset] [(.int (Int32.ofNat n)), (.int (Int32.ofNat n))])
  refine Wk.icN C d52_4 (XT.ii_ne_f rfl) ?_
  refine Wk.st (g' := (mkF m 8 #[.val (.ref x), .val (.ref y), .unset] [(.int (0 : Int32))])) (fun X t q => XS.iconst X.here C.hx rfl (hb C.hby d52_7) q) ?_
  refine Wk.st (g' := (mkF m 9 #[.val (.ref x), .val (.ref y), .val (.int (0 : Int32))] [])) (fun X t q => XS.istoreN X.here C.hx rfl (hb C.hby d52_8) rfl (l' := #[.val (.ref x), .val (.ref y), .val (.int (0 : Int32))]) rfl q) ?_
  exact k9 n 0 (Nat.zero_add _)
theorem d51_0 : decode jdk_42_method_66_code 0 = .ok (.aload_n 0, 1) := by decide +kernel
theorem d51_1 : decode jdk_42_method_66_code 1 = .ok (.aload_n 1, 1) := by decide +kernel
theorem d51_2 : decode jdk_42_method_66_code 2 = .ok (.if_acmp .ne 5, 3) := by decide +kernel
theorem d51_5 : decode jdk_42_method_66_code 5 = .ok (.iconst 1, 1) := by decide +kernel
theorem d51_6 : decode jdk_42_method_66_code 6 = .ok (.ireturn, 1) := by decide +kernel
theorem d51_7 : decode jdk_42_method_66_code 7 = .ok (.aload_n 1, 1) := by decide +kernel
theorem d51_8 : decode jdk_42_method_66_code 8 = .ok (.instanceof 10, 3) := by decide +kernel
theorem d51_11 : decode jdk_42_method_66_code 11 = .ok (.ifCond .eq 43, 3) := by decide +kernel
theorem d51_14 : decode jdk_42_method_66_code 14 = .ok (.aload_n 1, 1) := by decide +kernel
theorem d51_15 : decode jdk_42_method_66_code 15 = .ok (.checkcast 10, 3) := by decide +kernel
theorem d51_18 : decode jdk_42_method_66_code 18 = .ok (.astore_n 2, 1) := by decide +kernel
theorem d51_19 : decode jdk_42_method_66_code 19 = .ok (.getstatic 38, 3) := by decide +kernel
theorem d51_22 : decode jdk_42_method_66_code 22 = .ok (.ifCond .eq 14, 3) := by decide +kernel
theorem d51_25 : decode jdk_42_method_66_code 25 = .ok (.aload_n 0, 1) := by decide +kernel
theorem d51_26 : decode jdk_42_method_66_code 26 = .ok (.getfield 15, 3) := by decide +kernel
theorem d51_29 : decode jdk_42_method_66_code 29 = .ok (.aload_n 2, 1) := by decide +kernel
theorem d51_30 : decode jdk_42_method_66_code 30 = .ok (.getfield 15, 3) := by decide +kernel
theorem d51_33 : decode jdk_42_method_66_code 33 = .ok (.if_icmp .ne 21, 3) := by decide +kernel
theorem d51_36 : decode jdk_42_method_66_code 36 = .ok (.aload_n 0, 1) := by decide +kernel
theorem d51_37 : decode jdk_42_method_66_code 37 = .ok (.getfield 9, 3) := by decide +kernel
theorem d51_40 : decode jdk_42_method_66_code 40 = .ok (.aload_n 2, 1) := by decide +kernel
theorem d51_41 : decode jdk_42_method_66_code 41 = .ok (.getfield 9, 3) := by decide +kernel
theorem d51_44 : decode jdk_42_method_66_code 44 = .ok (.invokestatic 541, 3) := by decide +kernel
theorem d51_47 : decode jdk_42_method_66_code 47 = .ok (.ifCond .eq 7, 3) := by decide +kernel
theorem d51_50 : decode jdk_42_method_66_code 50 = .ok (.iconst 1, 1) := by decide +kernel
theorem d51_51 : decode jdk_42_method_66_code 51 = .ok (.goto 4, 3) := by decide +kernel
theorem d51_55 : decode jdk_42_method_66_code 55 = .ok (.ireturn, 1) := by decide +kernel
set_option maxRecDepth 65536 in
set_option maxHeartbeats 40000000 in
theorem own_eq (l : Launch) (Z : State) (a0 : Array Value) (hw : ∀ d ∈ tables_1, d.before a0 Z = true) (n0 : Nat) (h0 : Heap) (cs : Int32) (SC : Sta Z h0 ST "COMPACT_STRINGS" "Z" (.int cs)) (hcs : ¬ cs = (0 : Int32)) (x vx : Addr) (f1 : Nat → Value) (a va : Addr) (n : Nat) (f : Nat → Value) (S : Str Z h0 a va n f) (S1 : Str Z h0 x vx n f1) (eqf : ∀ i, i < n → f1 i = f i) :
    Met false l Z n0 (⟨ST, "equals", "(Ljava/lang/Object;)Z"⟩ : MethodName) jdk_42_method_66_code 3 (some .boolean) ({ frames := 1, cells := 0, slots := 0, locals := 14 } : Room) #[(.ref x), (.ref a)] h0 (fun r h => r = some (.int (1 : Int32)) ∧ h0 = h) := by
  refine Met.of (plainFor_of_name pn_0) #[.val (.ref x), .val (.ref a), .unset] (fun m => by first | (simp [entryFrame, mkF, argsToLocals, Value.category]; done) | rfl) ?_
  intro p e s m below meth c C
  obtain ⟨φ, hφ⟩ := bytes_of S.2.2.2.2.2.2.1
  refine Wk.ald C d51_0 rfl rfl ?_
  refine Wk.ald C d51_1 rfl rfl ?_
  by_cases hb1 : x = a
  · skip
    refine Wk.st (g' := (mkF m 5 #[.val (.ref x), .val (.ref a), .unset] [])) (fun X t q => Jvm.RoadKit.acmp (g := (mkF m 2 #[.val (.ref x), .val (.ref a), .unset] [(.ref a), (.ref x)])) X C.hx rfl rfl rfl (pc0 := 2) (pc' := 5) (same := true) rfl (hb C.hby d51_2) rfl (decide_eq_true (congrArg Value.ref hb1)) (by decide) (by decide) q) ?_
    refine Wk.st (g' := (mkF m 6 #[.val (.ref x), .val (.ref a), .unset] [(.int (1 : Int32))])) (fun X t q => XS.iconst X.here C.hx rfl (hb C.hby d51_5) q) ?_
    exact Wk.retV C (t := .boolean) rfl rfl (Or.inl ⟨rfl, by simp, _, rfl⟩) d51_6 (by decide) (by decide) ⟨rfl, rfl⟩
  · skip
    refine Wk.st (g' := (mkF m 7 #[.val (.ref x), .val (.ref a), .unset] [])) (fun X t q => Jvm.RoadKit.acmp (g := (mkF m 2 #[.val (.ref x), .val (.ref a), .unset] [(.ref a), (.ref x)])) X C.hx rfl rfl rfl (pc0 := 2) (pc' := 7) (same := false) rfl (hb C.hby d51_2) rfl (decide_eq_false fun q => hb1 (Value.ref.inj q)) (by decide) (by decide) q) ?_
    refine Wk.ald C d51_7 rfl rfl ?_
    refine Wk.isY C (wd hw 291) (Ins.self S.1) d51_8 ?_
    show Wk _ p l e _ s m _ below meth c n0 _ h0 0 0 (mkF m 11 #[.val (.ref x), .val (.ref a), .unset] [(.int (1 : Int32))])
    refine Wk.ifN C d51_11 (XT.i0_eq_f (by decide)) ?_
    refine Wk.ald C d51_14 rfl rfl ?_
    refine Wk.cast C (wd hw 291) (Ins.self S.1) d51_15 ?_
    show Wk _ p l e _ s m _ below meth c n0 _ h0 0 0 (mkF m 18 #[.val (.ref x), .val (.ref a), .unset] [(.ref a)])
    refine Wk.st (g' := (mkF m 19 #[.val (.ref x), .val (.ref a), .val (.ref a)] [])) (fun X t q => XS.astoreN X.here C.hx rfl (hb C.hby d51_18) rfl rfl (l' := #[.val (.ref x), .val (.ref a), .val (.ref a)]) rfl q) ?_
    refine Wk.getS C (wd hw 66) SC d51_19 ?_
    show Wk _ p l e _ s m _ below meth c n0 _ h0 0 0 (mkF m 22 #[.val (.ref x), .val (.ref a), .val (.ref a)] [(.int cs)])
    refine Wk.ifN C d51_22 (XT.i0_eq_f hcs) ?_
    refine Wk.ald C d51_25 rfl rfl ?_
    refine Wk.getF C (wd hw 77) Via.refl S1.2.2.1 d51_26 ?_
    show Wk _ p l e _ s m _ below meth c n0 _ h0 0 0 (mkF m 29 #[.val (.ref x), .val (.ref a), .val (.ref a)] [(.int (0 : Int32))])
    refine Wk.ald C d51_29 rfl rfl ?_
    refine Wk.getF C (wd hw 77) Via.refl S.2.2.1 d51_30 ?_
    show Wk _ p l e _ s m _ below meth c n0 _ h0 0 0 (mkF m 33 #[.val (.ref x), .val (.ref a), .val (.ref a)] [(.int (0 : Int32)), (.int (0 : Int32))])
    refine Wk.icN C d51_33 (XT.ii_ne_f (by decide)) ?_
    refine Wk.ald C d51_36 rfl rfl ?_
    refine Wk.getF C (wd hw 78) Via.refl S1.2.1 d51_37 ?_
    show Wk _ p l e _ s m _ below meth c n0 _ h0 0 0 (mkF m 40 #[.val (.ref x), .val (.ref a), .val (.ref a)] [(.ref vx)])
    refine Wk.ald C d51_40 rfl rfl ?_
    refine Wk.getF C (wd hw 78) Via.refl S.2.1 d51_41 ?_
    show Wk _ p l e _ s m _ below meth c n0 _ h0 0 0 (mkF m 44 #[.val (.ref x), .val (.ref a), .val (.ref a)] [(.ref va), (.ref vx)])
    refine Wk.callS C (z := (⟨"java/lang/StringLatin1", "equals", "([B[B)Z"⟩ : MethodName)) (wd hw 292) (wd hw 293) (wd hw 294) (wd hw 295) (by decide) (own_eqL l Z a0 hw n0 h0 vx va n φ (S1.2.2.2.1.congr (fun i hi => (eqf i hi).trans (hφ i hi))) (S.2.2.2.1.congr hφ) S.2.2.2.2.2.2.2) (w := 0) (by decide) (by decide) pd_24 rfl (rest := []) rfl rfl (Nat.le_of_eq rfl) (by decide) (by decide) d51_44 ?_
    rintro _ _ ⟨rfl, rfl⟩
    show Wk _ p l e _ s m _ below meth c n0 _ h0 0 0 (mkF m 47 #[.val (.ref x), .val (.ref a), .val (.ref a)] [(.int (1 : Int32))])
    refine Wk.ifN C d51_47 (XT.i0_eq_f (by decide)) ?_
    refine Wk.st (g' := (mkF m 51 #[.val (.ref x), .val (.ref a), .val (.ref a)] [(.int (1 : Int32))])) (fun X t q => XS.iconst X.here C.hx rfl (hb C.hby d51_50) q) ?_
    refine Wk.gto C (pc' := 55) d51_51 (by decide) (by decide) ?_
    exact Wk.retV C (t := .boolean) rfl rfl (Or.inl ⟨rfl, by simp, _, rfl⟩) d51_55 (by decide) (by decide) ⟨rfl, rfl⟩
theorem d58_0 : decode jdk_42_method_151_code 0 = .ok (.aload_n 0, 1) := by decide +kernel
theorem d58_1 : decode jdk_42_method_151_code 1 = .ok (.invokespecial 1, 3) := by decide +kernel
theorem d58_4 : decode jdk_42_method_151_code 4 = .ok (.aload_n 0, 1) := by decide +kernel
theorem d58_5 : decode jdk_42_method_151_code 5 = .ok (.aload_n 1, 1) := by decide +kernel
theorem d58_6 : decode jdk_42_method_151_code 6 = .ok (.putfield 9, 3) := by decide +kernel
theorem d58_9 : decode jdk_42_method_151_code 9 = .ok (.aload_n 0, 1) := by decide +kernel
theorem d58_10 : decode jdk_42_method_151_code 10 = .ok (.iload_n 2, 1) := by decide +kernel
theorem d58_11 : decode jdk_42_method_151_code 11 = .ok (.putfield 15, 3) := by decide +kernel
theorem d58_14 : decode jdk_42_method_151_code 14 = .ok (.return_, 1) := by decide +kernel
set_option maxRecDepth 65536 in
set_option maxHeartbeats 40000000 in
theorem own_bb (l : Launch) (Z : State) (a0 : Array Value) (hw : ∀ d ∈ tables_1, d.before a0 Z = true) (n0 : Nat) (h0 : Heap) (y vy : Addr) (gy : n0 ≤ y) (Y0 : Exa Z h0 y ST) (Y1 : Fld Z h0 y ST "value" "[B" .null) (Y2 : Fld Z h0 y ST "coder" "B" (.int (0 : Int32))) :
    Met false l Z n0 (⟨ST, "<init>", "([BB)V"⟩ : MethodName) jdk_42_method_151_code 3 none ({ frames := 1, cells := 0, slots := 0, locals := 12 } : Room) #[(.ref y), (.ref vy), (.int (0 : Int32))] h0 (fun r h => r = none ∧ Keep h0 h [y] ∧ Fld Z h y ST "value" "[B" (.ref vy) ∧ Fld Z h y ST "coder" "B" (.int (0 : Int32))) := by
  refine Met.of (plainFor_of_name pn_0) #[.val (.ref y), .val (.ref vy), .val (.int (0 : Int32))] (fun m => by first | (simp [entryFrame, mkF, argsToLocals, Value.category]; done) | rfl) ?_
  intro p e s m below meth c C
  refine Wk.ald C d58_0 rfl rfl ?_
  refine Wk.initO C (wd hw 65) (wd hw 19) (wd hw 20) (w := 0) rfl d58_1 (by decide) (Nat.le_of_eq rfl) (by decide) ?_
  show Wk _ p l e _ s m _ below meth c n0 _ h0 0 0 (mkF m 4 #[.val (.ref y), .val (.ref vy), .val (.int (0 : Int32))] [])
  refine Wk.ald C d58_4 rfl rfl ?_
  refine Wk.ald C d58_5 rfl rfl ?_
  refine Wk.putF C (wd hw 78) Via.refl Y1 Y0 (Or.inr ⟨(wd hw 8), rfl, rfl⟩) (wd hw 6) (ty := (.array .byte)) (by decide) (v' := (.ref vy)) rfl rfl gy d58_6 ?_
  intro h1 W2
  have F3 : Fld Z h1 y ST "value" "[B" (.ref vy) := Y1.same W2
  have F4 : Exa Z h1 y ST := Y0.wr W2
  have F5 : Fld Z h1 y ST "coder" "B" (.int (0 : Int32)) := Y2.other W2 (Or.inr (slot_ne (Or.inr (wd hw 9)) (Or.inr (wd hw 8)) (by decide) (t := .byte) (t' := (.array .byte)) (by decide) (by decide)))
  have K6 := (Keep.refl h0 [y]).wr W2 (Or.inl (by simp))
  show Wk _ p l e _ s m _ below meth c n0 _ h1 0 0 (mkF m 9 #[.val (.ref y), .val (.ref vy), .val (.int (0 : Int32))] [])
  refine Wk.ald C d58_9 rfl rfl ?_
  refine Wk.ild C d58_10 rfl ?_
  refine Wk.putF C (wd hw 77) Via.refl F5 F4 (Or.inr ⟨(wd hw 9), rfl, rfl⟩) (wd hw 6) (ty := .byte) (by decide) (v' := (.int (0 : Int32))) rfl (by decide) gy d58_11 ?_
  intro h7 W8
  have F9 : Fld Z h7 y ST "coder" "B" (.int (0 : Int32)) := F5.same W8
  have F10 : Exa Z h7 y ST := F4.wr W8
  have F11 : Fld Z h7 y ST "value" "[B" (.ref vy) := F3.other W8 (Or.inr (slot_ne (Or.inr (wd hw 8)) (Or.inr (wd hw 9)) (by decide) (t := (.array .byte)) (t' := .byte) (by decide) (by decide)))
  have K12 := K6.wr W8 (Or.inl (by simp))
  show Wk _ p l e _ s m _ below meth c n0 _ h7 0 0 (mkF m 14 #[.val (.ref y), .val (.ref vy), .val (.int (0 : Int32))] [])
  exact Wk.retN0 C rfl d58_14 (by decide) (by decide) ⟨rfl, K12, F11, F9⟩
theorem d50_0 : decode jdk_41_method_12_code 0 = .ok (.iload_n 0, 1) := by decide +kernel
theorem d50_1 : decode jdk_41_method_12_code 1 = .ok (.ifCond .lt 13, 3) := by decide +kernel
theorem d50_4 : decode jdk_41_method_12_code 4 = .ok (.iload_n 0, 1) := by decide +kernel
theorem d50_5 : decode jdk_41_method_12_code 5 = .ok (.iload_n 1, 1) := by decide +kernel
theorem d50_6 : decode jdk_41_method_12_code 6 = .ok (.if_icmp .gt 8, 3) := by decide +kernel
theorem d50_9 : decode jdk_41_method_12_code 9 = .ok (.iload_n 1, 1) := by decide +kernel
theorem d50_10 : decode jdk_41_method_12_code 10 = .ok (.iload_n 2, 1) := by decide +kernel
theorem d50_11 : decode jdk_41_method_12_code 11 = .ok (.if_icmp .le 11, 3) := by decide +kernel
theorem d50_22 : decode jdk_41_method_12_code 22 = .ok (.iload_n 0, 1) := by decide +kernel
theorem d50_23 : decode jdk_41_method_12_code 23 = .ok (.ireturn, 1) := by decide +kernel
set_option maxRecDepth 65536 in
set_option maxHeartbeats 40000000 in
theorem own_cftN (l : Launch) (Z : State) (a0 : Array Value) (hw : ∀ d ∈ tables_1, d.before a0 Z = true) (n0 : Nat) (h0 : Heap) (d d1 n : Nat) (q1 : d ≤ d1) (q2 : d1 ≤ n) (q3 : n < 1000) :
    Met false l Z n0 (⟨"jdk/internal/util/Preconditions", "checkFromToIndex", "(IIILjava/util/function/BiFunction;)I"⟩ : MethodName) jdk_41_method_12_code 4 (some .int) ({ frames := 0, cells := 0, slots := 0, locals := 0 } : Room) #[(.int (Int32.ofNat d)), (.int (Int32.ofNat d1)), (.int (Int32.ofNat n)), .null] h0 (fun r h => r = some (.int (Int32.ofNat d)) ∧ h0 = h) := by
  refine Met.of (plainFor_of_name pn_9) #[.val (.int (Int32.ofNat d)), .val (.int (Int32.ofNat d1)), .val (.int (Int32.ofNat n)), .val .null] (fun m => by first | (simp [entryFrame, mkF, argsToLocals, Value.category]; done) | rfl) ?_
  intro p e s m below meth c C
  refine Wk.ild C d50_0 rfl ?_
  refine Wk.ifN C d50_1 (XT.i0_lt_f (nn32 (by omega))) ?_
  refine Wk.ild C d50_4 rfl ?_
  refine Wk.ild C d50_5 rfl ?_
  refine Wk.icN C d50_6 (XT.ii_gt_f (mt (lt32 (by omega) (by omega)).mp (by omega))) ?_
  refine Wk.ild C d50_9 rfl ?_
  refine Wk.ild C d50_10 rfl ?_
  refine Wk.icY C (pc' := 22) d50_11 (XT.ii_le_t (mt (lt32 (by omega) (by omega)).mp (by omega))) (by decide) (by decide) ?_
  refine Wk.ild C d50_22 rfl ?_
  exact Wk.retV C (t := .int) rfl rfl (Or.inl ⟨rfl, by simp, _, rfl⟩) d50_23 (by decide) (by decide) ⟨rfl, rfl⟩
set_option maxRecDepth 65536 in
set_option maxHeartbeats 40000000 in
theorem own_cftR (l : Launch) (Z : State) (a0 : Array Value) (hw : ∀ d ∈ tables_1, d.before a0 Z = true) (n0 : Nat) (h0 : Heap) (d d1 n : Nat) (q1 : d ≤ d1) (q2 : d1 ≤ n) (q3 : n < 1000) (sr : Addr) :
    Met false l Z n0 (⟨"jdk/internal/util/Preconditions", "checkFromToIndex", "(IIILjava/util/function/BiFunction;)I"⟩ : MethodName) jdk_41_method_12_code 4 (some .int) ({ frames := 0, cells := 0, slots := 0, locals := 0 } : Room) #[(.int (Int32.ofNat d)), (.int (Int32.ofNat d1)), (.int (Int32.ofNat n)), (.ref sr)] h0 (fun r h => r = some (.int (Int32.ofNat d)) ∧ h0 = h) := by
  refine Met.of (plainFor_of_name pn_9) #[.val (.int (Int32.ofNat d)), .val (.int (Int32.ofNat d1)), .val (.int (Int32.ofNat n)), .val (.ref sr)] (fun m => by first | (simp [entryFrame, mkF, argsToLocals, Value.category]; done) | rfl) ?_
  intro p e s m below meth c C
  refine Wk.ild C d50_0 rfl ?_
  refine Wk.ifN C d50_1 (XT.i0_lt_f (nn32 (by omega))) ?_
  refine Wk.ild C d50_4 rfl ?_
  refine Wk.ild C d50_5 rfl ?_
  refine Wk.icN C d50_6 (XT.ii_gt_f (mt (lt32 (by omega) (by omega)).mp (by omega))) ?_
  refine Wk.ild C d50_9 rfl ?_
  refine Wk.ild C d50_10 rfl ?_
  refine Wk.icY C (pc' := 22) d50_11 (XT.ii_le_t (mt (lt32 (by omega) (by omega)).mp (by omega))) (by decide) (by decide) ?_
  refine Wk.ild C d50_22 rfl ?_
  exact Wk.retV C (t := .int) rfl rfl (Or.inl ⟨rfl, by simp, _, rfl⟩) d50_23 (by decide) (by decide) ⟨rfl, rfl⟩
set_option maxRecDepth 65536 in
theorem own_cft (l : Launch) (Z : State) (a0 : Array Value) (hw : ∀ d ∈ tables_1, d.before a0 Z = true) (n0 : Nat) (h0 : Heap) (d d1 n : Nat) (q1 : d ≤ d1) (q2 : d1 ≤ n) (q3 : n < 1000) (sv : Value) (hr_sv : sv.isRef = true) :
    Met false l Z n0 (⟨"jdk/internal/util/Preconditions", "checkFromToIndex", "(IIILjava/util/function/BiFunction;)I"⟩ : MethodName) jdk_41_method_12_code 4 (some .int) ({ frames := 0, cells := 0, slots := 0, locals := 0 } : Room) #[(.int (Int32.ofNat d)), (.int (Int32.ofNat d1)), (.int (Int32.ofNat n)), sv] h0 (fun r h => r = some (.int (Int32.ofNat d)) ∧ h0 = h) := by
  rcases ref_cases hr_sv with rfl | ⟨sr, rfl⟩
  · exact own_cftN l Z a0 hw n0 h0 d d1 n q1 q2 q3
  · exact own_cftR l Z a0 hw n0 h0 d d1 n q1 q2 q3 sr
theorem d49_0 : decode jdk_42_method_158_code 0 = .ok (.iload_n 0, 1) := by decide +kernel
theorem d49_1 : decode jdk_42_method_158_code 1 = .ok (.iload_n 1, 1) := by decide +kernel
theorem d49_2 : decode jdk_42_method_158_code 2 = .ok (.iload_n 2, 1) := by decide +kernel
theorem d49_3 : decode jdk_42_method_158_code 3 = .ok (.getstatic 1053, 3) := by decide +kernel
theorem d49_6 : decode jdk_42_method_158_code 6 = .ok (.invokestatic 1062, 3) := by decide +kernel
theorem d49_9 : decode jdk_42_method_158_code 9 = .ok (.pop, 1) := by decide +kernel
theorem d49_10 : decode jdk_42_method_158_code 10 = .ok (.return_, 1) := by decide +kernel
set_option maxRecDepth 65536 in
set_option maxHeartbeats 40000000 in
theorem own_cbb (l : Launch) (Z : State) (a0 : Array Value) (hw : ∀ d ∈ tables_1, d.before a0 Z = true) (n0 : Nat) (h0 : Heap) (d d1 n : Nat) (q1 : d ≤ d1) (q2 : d1 ≤ n) (q3 : n < 1000) (sv : Value) (hr_sv : sv.isRef = true) (SV : Sta Z h0 "jdk/internal/util/Preconditions" "SIOOBE_FORMATTER" "Ljava/util/function/BiFunction;" sv) :
    Met false l Z n0 (⟨ST, "checkBoundsBeginEnd", "(III)V"⟩ : MethodName) jdk_42_method_158_code 3 none ({ frames := 1, cells := 0, slots := 0, locals := 15 } : Room) #[(.int (Int32.ofNat d)), (.int (Int32.ofNat d1)), (.int (Int32.ofNat n))] h0 (fun r h => r = none ∧ h0 = h) := by
  refine Met.of (plainFor_of_name pn_0) #[.val (.int (Int32.ofNat d)), .val (.int (Int32.ofNat d1)), .val (.int (Int32.ofNat n))] (fun m => by first | (simp [entryFrame, mkF, argsToLocals, Value.category]; done) | rfl) ?_
  intro p e s m below meth c C
  refine Wk.ild C d49_0 rfl ?_
  refine Wk.ild C d49_1 rfl ?_
  refine Wk.ild C d49_2 rfl ?_
  refine Wk.getS C (wd hw 281) SV d49_3 ?_
  show Wk _ p l e _ s m _ below meth c n0 _ h0 0 0 (mkF m 6 #[.val (.int (Int32.ofNat d)), .val (.int (Int32.ofNat d1)), .val (.int (Int32.ofNat n))] [sv, (.int (Int32.ofNat n)), (.int (Int32.ofNat d1)), (.int (Int32.ofNat d))])
  refine Wk.callS C (z := (⟨"jdk/internal/util/Preconditions", "checkFromToIndex", "(IIILjava/util/function/BiFunction;)I"⟩ : MethodName)) (wd hw 283) (wd hw 284) (wd hw 282) (wd hw 285) (by decide) (own_cft l Z a0 hw n0 h0 d d1 n q1 q2 q3 sv hr_sv) (w := 0) (by decide) (by decide) pd_25 rfl (rest := []) rfl rfl (Nat.le_of_eq rfl) (by decide) (by decide) d49_6 ?_
  rintro _ _ ⟨rfl, rfl⟩
  show Wk _ p l e _ s m _ below meth c n0 _ h0 0 0 (mkF m 9 #[.val (.int (Int32.ofNat d)), .val (.int (Int32.ofNat d1)), .val (.int (Int32.ofNat n))] [(.int (Int32.ofNat d))])
  refine Wk.popS C d49_9 rfl ?_
  exact Wk.retN0 C rfl d49_10 (by decide) (by decide) ⟨rfl, rfl⟩
theorem d54_0 : decode jdk_43_method_47_code 0 = .ok (.iload_n 2, 1) := by decide +kernel
theorem d54_1 : decode jdk_43_method_47_code 1 = .ok (.ifCond .ne 6, 3) := by decide +kernel
theorem d54_4 : decode jdk_43_method_47_code 4 = .ok (.ldc 151, 2) := by decide +kernel
theorem d54_6 : decode jdk_43_method_47_code 6 = .ok (.areturn, 1) := by decide +kernel
theorem d54_7 : decode jdk_43_method_47_code 7 = .ok (.new 1, 3) := by decide +kernel
theorem d54_10 : decode jdk_43_method_47_code 10 = .ok (.dup, 1) := by decide +kernel
theorem d54_11 : decode jdk_43_method_47_code 11 = .ok (.aload_n 0, 1) := by decide +kernel
theorem d54_12 : decode jdk_43_method_47_code 12 = .ok (.iload_n 1, 1) := by decide +kernel
theorem d54_13 : decode jdk_43_method_47_code 13 = .ok (.iload_n 1, 1) := by decide +kernel
theorem d54_14 : decode jdk_43_method_47_code 14 = .ok (.iload_n 2, 1) := by decide +kernel
theorem d54_15 : decode jdk_43_method_47_code 15 = .ok (.iadd, 1) := by decide +kernel
theorem d54_16 : decode jdk_43_method_47_code 16 = .ok (.invokestatic 232, 3) := by decide +kernel
theorem d54_19 : decode jdk_43_method_47_code 19 = .ok (.iconst 0, 1) := by decide +kernel
theorem d54_20 : decode jdk_43_method_47_code 20 = .ok (.invokespecial 112, 3) := by decide +kernel
theorem d54_23 : decode jdk_43_method_47_code 23 = .ok (.areturn, 1) := by decide +kernel
set_option maxRecDepth 65536 in
set_option maxHeartbeats 40000000 in
theorem own_nst (l : Launch) (Z : State) (a0 : Array Value) (hw : ∀ d ∈ tables_1, d.before a0 Z = true) (n0 : Nat) (h0 : Heap) (lt : Option Addr) (hsz : n0 ≤ h0.size) (EZ : Ext Z.heap h0) (LO : LtOk Z h0 lt) (HD : ConstHeldL Z "java/lang/StringLatin1" 151) (x : Addr) (k0 d ln : Nat) (f : Nat → Value) (X0 : Fa Z h0 x .byte k0 f) (X1 : Exa Z h0 x "[B") (XF : FT f k0) (q2 : d + ln ≤ k0) (q3 : k0 < 1000) (q4 : ln ≤ 64) :
    MetL l Z n0 (⟨"java/lang/StringLatin1", "newString", "([BII)Ljava/lang/String;"⟩ : MethodName) jdk_43_method_47_code 3 (some (.object ST)) ({ frames := 3, cells := 2, slots := 68, locals := 59 } : Room) #[(.ref x), (.int (Int32.ofNat d)), (.int (Int32.ofNat ln))] lt h0 (fun r h lt' => ∃ y vy : Addr, r = some (.ref y) ∧ Str Z h y vy ln (fun i => f (d + i)) ∧ Ext h0 h ∧ LtOk Z h lt') := by
  refine MetL.ofH (plainFor_of_name pn_8) #[.val (.ref x), .val (.int (Int32.ofNat d)), .val (.int (Int32.ofNat ln))] (fun m => by first | (simp [entryFrame, mkF, argsToLocals, Value.category]; done) | rfl) ?_
  intro p e s m below meth c C hs0
  refine Wl.ild C d54_0 rfl ?_
  by_cases hb1 : (Int32.ofNat ln) = (0 : Int32)
  · skip
    refine Wl.ifN C d54_1 (XT.i0_ne_f hb1) ?_
    refine Wl.ldcE C hs0 (fun _ _ q => q) (fun x cl q => EZ.2 x cl q) (wd hw 304) (own_wS hw) (wd hw 6) HD LO d54_4 (by decide) (by decide) ?_
    intro h2 a3 va4 lt5 E6 S7 q8 pl9
    have F10 : Fa Z h2 x .byte k0 f := X0.ext E6
    have F11 : Exa Z h2 x "[B" := X1.ext E6
    have sz12 : n0 ≤ h2.size := Nat.le_trans hsz E6.1
    have sy13 : h0.size ≤ h2.size := Nat.le_trans (Nat.le_refl h0.size) E6.1
    have K14 := (Keep.refl h0 []).ext E6
    show Wl Z p l e _ s m _ below meth c n0 _ lt5 h2 2 4 (mkF m 6 #[.val (.ref x), .val (.int (Int32.ofNat d)), .val (.int (Int32.ofNat ln))] [(.ref a3)])
    have z : ln = 0 := is0 (by omega) hb1
    exact Wl.retV C (t := (.object ST)) rfl rfl (Or.inr (Or.inr (Or.inr (Or.inr ⟨rfl, rfl, rfl⟩)))) d54_6 (by decide) (by decide) ⟨a3, va4, rfl, Str.cast z.symm S7.str, E6, LO.now E6 S7 q8⟩
  · skip
    refine Wl.ifY C (pc' := 7) d54_1 (XT.i0_ne_t hb1) (by decide) (by decide) ?_
    refine Wl.newO C (wd hw 317) (wd hw 6) (wd hw 5) d54_7 (by decide) (by decide) ?_
    intro h15 b16 g17 E18 A19 D20
    have ne21 : x ≠ b16 := Nat.ne_of_lt (Nat.lt_of_lt_of_le X0.lt (Nat.le_of_eq g17.symm))
    have ge22 : n0 ≤ b16 := Nat.le_trans hsz (Nat.le_of_eq g17.symm)
    have gz23 : h0.size ≤ b16 := Nat.le_trans (Nat.le_refl h0.size) (Nat.le_of_eq g17.symm)
    have F24 : Fa Z h15 x .byte k0 f := X0.ext E18
    have F25 : Exa Z h15 x "[B" := X1.ext E18
    have sz26 : n0 ≤ h15.size := Nat.le_trans hsz E18.1
    have sy27 : h0.size ≤ h15.size := Nat.le_trans (Nat.le_refl h0.size) E18.1
    have K28 := (Keep.refl h0 []).ext E18
    have F29 : Fld Z h15 b16 ST "value" "[B" .null := D20 (Or.inr (wd hw 8)) (ty := (.array .byte)) (by decide)
    have F30 : Fld Z h15 b16 ST "coder" "B" (.int (0 : Int32)) := D20 (Or.inr (wd hw 9)) (ty := .byte) (by decide)
    show Wl Z p l e _ s m _ below meth c n0 _ lt h15 1 4 (mkF m 10 #[.val (.ref x), .val (.int (Int32.ofNat d)), .val (.int (Int32.ofNat ln))] [(.ref b16)])
    refine Wl.dupS C d54_10 rfl ?_
    refine Wl.ald C d54_11 rfl rfl ?_
    refine Wl.ild C d54_12 rfl ?_
    refine Wl.ild C d54_13 rfl ?_
    refine Wl.ild C d54_14 rfl ?_
    refine Wl.st (g' := (mkF m 16 #[.val (.ref x), .val (.int (Int32.ofNat d)), .val (.int (Int32.ofNat ln))] [(.int ((Int32.ofNat d) + (Int32.ofNat ln))), (.int (Int32.ofNat d)), (.ref x), (.ref b16), (.ref b16)])) (fun X t q => XS.iadd X.here C.hx rfl (hb C.hby d54_15) rfl q) ?_
    rw [show ((Int32.ofNat d) + (Int32.ofNat ln)) = (Int32.ofNat (d + ln)) from add32 (by omega)]
    show Wl Z p l e _ s m _ below meth c n0 _ lt h15 1 4 (mkF m 16 #[.val (.ref x), .val (.int (Int32.ofNat d)), .val (.int (Int32.ofNat ln))] [(.int (Int32.ofNat (d + ln))), (.int (Int32.ofNat d)), (.ref x), (.ref b16), (.ref b16)])
    refine Wl.callS C (z := (⟨"java/util/Arrays", "copyOfRange", "([BII)[B"⟩ : MethodName)) (wd hw 318) (wd hw 237) (wd hw 203) (wd hw 238) (by decide) (Met.toL (own_cr l Z a0 hw n0 h15 sz26 x k0 d (d + ln) f F24 F25 XF (by omega) (by omega) q3 (by omega)) lt) (w := 2) (by decide) (by decide) pd_13 rfl (rest := [(.ref b16), (.ref b16)]) rfl rfl (Nat.le_of_eq rfl) (by decide) (by decide) d54_16 ?_
    rintro _ h31 lq ⟨⟨vyq33, rfl, K32, gq34, Eq35, Fq36⟩, elq⟩; rw [elq]
    show Wl Z p l e _ s m _ below meth c n0 _ lt h31 2 68 (mkF m 19 #[.val (.ref x), .val (.int (Int32.ofNat d)), .val (.int (Int32.ofNat ln))] [(.ref vyq33), (.ref b16), (.ref b16)])
    have ne37 : x ≠ vyq33 := Nat.ne_of_lt (Nat.lt_of_lt_of_le (F24).lt gq34)
    have ne38 : b16 ≠ vyq33 := Nat.ne_of_lt (Nat.lt_of_lt_of_le (A19).lt gq34)
    have ge39 : n0 ≤ vyq33 := Nat.le_trans sz26 gq34
    have gz40 : h0.size ≤ vyq33 := Nat.le_trans sy27 gq34
    have F41 : Fa Z h31 x .byte k0 f := F24.keep K32 nm0
    have F42 : Exa Z h31 x "[B" := F25.keep K32
    have F43 : Exa Z h31 b16 ST := A19.keep K32
    have F44 : Fld Z h31 b16 ST "value" "[B" .null := F29.keep K32 nm0
    have F45 : Fld Z h31 b16 ST "coder" "B" (.int (0 : Int32)) := F30.keep K32 nm0
    have sz46 : n0 ≤ h31.size := Nat.le_trans sz26 K32.1
    have sy47 : h0.size ≤ h31.size := Nat.le_trans sy27 K32.1
    have K48 := K28.trans K32 nv0
    refine Wl.st (g' := (mkF m 20 #[.val (.ref x), .val (.int (Int32.ofNat d)), .val (.int (Int32.ofNat ln))] [(.int (0 : Int32)), (.ref vyq33), (.ref b16), (.ref b16)])) (fun X t q => XS.iconst X.here C.hx rfl (hb C.hby d54_19) q) ?_
    refine Wl.callI C (z := (⟨ST, "<init>", "([BB)V"⟩ : MethodName)) rfl (wd hw 319) (wd hw 315) (wd hw 5) (wd hw 316) (by decide) (Met.toL (own_bb l Z a0 hw n0 h31 b16 vyq33 ge22 F43 F44 F45) lt) (w := 1) (by decide) (by decide) pd_26 rfl (rest := [(.ref b16)]) rfl rfl (Nat.le_of_eq rfl) (by decide) (by decide) d54_20 ?_
    rintro _ h49 lq ⟨⟨rfl, K50, Aq51, Bq52⟩, elq⟩; rw [elq]
    show Wl Z p l e _ s m _ below meth c n0 _ lt h49 2 68 (mkF m 23 #[.val (.ref x), .val (.int (Int32.ofNat d)), .val (.int (Int32.ofNat ln))] [(.ref b16)])
    have F53 : Fa Z h49 x .byte k0 f := F41.keep K50 (nmS ne21 nm0)
    have F54 : Exa Z h49 x "[B" := F42.keep K50
    have F55 : Exa Z h49 b16 ST := F43.keep K50
    have F56 : Exa Z h49 vyq33 "[B" := Eq35.keep K50
    have F57 : Fa Z h49 vyq33 .byte (d + ln - d) (fun i => f (d + i)) := Fq36.keep K50 (nmS (Ne.symm ne38) nm0)
    have sz58 : n0 ≤ h49.size := Nat.le_trans sz46 K50.1
    have sy59 : h0.size ≤ h49.size := Nat.le_trans sy47 K50.1
    have K60 := K48.trans K50 (nvS (Or.inr gz23) nv0)
    exact Wl.retV C (t := (.object ST)) rfl rfl (Or.inr (Or.inr (Or.inr (Or.inr ⟨rfl, rfl, rfl⟩)))) d54_23 (by decide) (by decide) ⟨b16, vyq33, rfl, ⟨F55, Aq51, Bq52, Fa.cast (by omega) F57, F56, ne38, XF.shift q2, by omega⟩, toExt K60, LO.ext (toExt K60)⟩
theorem d48_0 : decode jdk_42_method_92_code 0 = .ok (.aload_n 0, 1) := by decide +kernel
theorem d48_1 : decode jdk_42_method_92_code 1 = .ok (.invokevirtual 505, 3) := by decide +kernel
theorem d48_4 : decode jdk_42_method_92_code 4 = .ok (.istore_n 3, 1) := by decide +kernel
theorem d48_5 : decode jdk_42_method_92_code 5 = .ok (.iload_n 1, 1) := by decide +kernel
theorem d48_6 : decode jdk_42_method_92_code 6 = .ok (.iload_n 2, 1) := by decide +kernel
theorem d48_7 : decode jdk_42_method_92_code 7 = .ok (.iload_n 3, 1) := by decide +kernel
theorem d48_8 : decode jdk_42_method_92_code 8 = .ok (.invokestatic 521, 3) := by decide +kernel
theorem d48_11 : decode jdk_42_method_92_code 11 = .ok (.iload_n 1, 1) := by decide +kernel
theorem d48_12 : decode jdk_42_method_92_code 12 = .ok (.ifCond .ne 10, 3) := by decide +kernel
theorem d48_15 : decode jdk_42_method_92_code 15 = .ok (.iload_n 2, 1) := by decide +kernel
theorem d48_16 : decode jdk_42_method_92_code 16 = .ok (.iload_n 3, 1) := by decide +kernel
theorem d48_17 : decode jdk_42_method_92_code 17 = .ok (.if_icmp .ne 5, 3) := by decide +kernel
theorem d48_20 : decode jdk_42_method_92_code 20 = .ok (.aload_n 0, 1) := by decide +kernel
theorem d48_21 : decode jdk_42_method_92_code 21 = .ok (.areturn, 1) := by decide +kernel
theorem d48_22 : decode jdk_42_method_92_code 22 = .ok (.iload_n 2, 1) := by decide +kernel
theorem d48_23 : decode jdk_42_method_92_code 23 = .ok (.iload_n 1, 1) := by decide +kernel
theorem d48_24 : decode jdk_42_method_92_code 24 = .ok (.isub, 1) := by decide +kernel
theorem d48_25 : decode jdk_42_method_92_code 25 = .ok (.istore 4, 2) := by decide +kernel
theorem d48_27 : decode jdk_42_method_92_code 27 = .ok (.aload_n 0, 1) := by decide +kernel
theorem d48_28 : decode jdk_42_method_92_code 28 = .ok (.invokevirtual 492, 3) := by decide +kernel
theorem d48_31 : decode jdk_42_method_92_code 31 = .ok (.ifCond .eq 16, 3) := by decide +kernel
theorem d48_34 : decode jdk_42_method_92_code 34 = .ok (.aload_n 0, 1) := by decide +kernel
theorem d48_35 : decode jdk_42_method_92_code 35 = .ok (.getfield 9, 3) := by decide +kernel
theorem d48_38 : decode jdk_42_method_92_code 38 = .ok (.iload_n 1, 1) := by decide +kernel
theorem d48_39 : decode jdk_42_method_92_code 39 = .ok (.iload 4, 2) := by decide +kernel
theorem d48_41 : decode jdk_42_method_92_code 41 = .ok (.invokestatic 685, 3) := by decide +kernel
theorem d48_44 : decode jdk_42_method_92_code 44 = .ok (.goto 13, 3) := by decide +kernel
theorem d48_57 : decode jdk_42_method_92_code 57 = .ok (.areturn, 1) := by decide +kernel
set_option maxRecDepth 65536 in
set_option maxHeartbeats 40000000 in
theorem own_sub (l : Launch) (Z : State) (a0 : Array Value) (hw : ∀ d ∈ tables_1, d.before a0 Z = true) (n0 : Nat) (h0 : Heap) (lt : Option Addr) (hsz : n0 ≤ h0.size) (EZ : Ext Z.heap h0) (LO : LtOk Z h0 lt) (HD : ConstHeldL Z "java/lang/StringLatin1" 151) (cs : Int32) (SC : Sta Z h0 ST "COMPACT_STRINGS" "Z" (.int cs)) (hcs : ¬ cs = (0 : Int32)) (sv : Value) (hr_sv : sv.isRef = true) (SV : Sta Z h0 "jdk/internal/util/Preconditions" "SIOOBE_FORMATTER" "Ljava/util/function/BiFunction;" sv) (a va : Addr) (n : Nat) (f : Nat → Value) (S : Str Z h0 a va n f) (d d1 : Nat) (q1 : d ≤ d1) (q2 : d1 ≤ n) (q4 : n ≤ 64) :
    MetL l Z n0 (⟨ST, "substring", "(II)Ljava/lang/String;"⟩ : MethodName) jdk_42_method_92_code 5 (some (.object ST)) ({ frames := 4, cells := 2, slots := 68, locals := 73 } : Room) #[(.ref a), (.int (Int32.ofNat d)), (.int (Int32.ofNat d1))] lt h0 (fun r h lt' => ∃ y vy : Addr, r = some (.ref y) ∧ Str Z h y vy (d1 - d) (fun i => f (d + i)) ∧ Ext h0 h ∧ LtOk Z h lt') := by
  refine MetL.ofH (plainFor_of_name pn_0) #[.val (.ref a), .val (.int (Int32.ofNat d)), .val (.int (Int32.ofNat d1)), .unset, .unset] (fun m => by first | (simp [entryFrame, mkF, argsToLocals, Value.category]; done) | rfl) ?_
  intro p e s m below meth c C hs0
  refine Wl.ald C d48_0 rfl rfl ?_
  refine Wl.callV C (x := (⟨ST, "length", "()I"⟩ : MethodName)) (z := (⟨ST, "length", "()I"⟩ : MethodName)) (K := ST) (wd hw 277) (wd hw 174) (wd hw 175) (wd hw 88) (wd hw 5) (wd hw 92) (by decide) (fun s' hZ' => notFace_of_selects (args := #[]) (mvT hZ' (wd hw 175))) S.1 (Met.toL (own_len l Z a0 hw n0 h0 cs SC hcs a va n f S) lt) (w := 0) (by decide) (by decide) pd_1 rfl (rest := []) rfl rfl (Nat.le_of_eq rfl) (by decide) (by decide) d48_1 ?_
  rintro _ _ lq ⟨⟨rfl, rfl⟩, elq⟩; rw [elq]
  show Wl Z p l e _ s m _ below meth c n0 _ lt h0 0 0 (mkF m 4 #[.val (.ref a), .val (.int (Int32.ofNat d)), .val (.int (Int32.ofNat d1)), .unset, .unset] [(.int (Int32.ofNat n))])
  refine Wl.st (g' := (mkF m 5 #[.val (.ref a), .val (.int (Int32.ofNat d)), .val (.int (Int32.ofNat d1)), .val (.int (Int32.ofNat n)), .unset] [])) (fun X t q => XS.istoreN X.here C.hx rfl (hb C.hby d48_4) rfl (l' := #[.val (.ref a), .val (.int (Int32.ofNat d)), .val (.int (Int32.ofNat d1)), .val (.int (Int32.ofNat n)), .unset]) rfl q) ?_
  refine Wl.ild C d48_5 rfl ?_
  refine Wl.ild C d48_6 rfl ?_
  refine Wl.ild C d48_7 rfl ?_
  refine Wl.callS C (z := (⟨ST, "checkBoundsBeginEnd", "(III)V"⟩ : MethodName)) (wd hw 278) (wd hw 279) (wd hw 5) (wd hw 280) (by decide) (Met.toL (own_cbb l Z a0 hw n0 h0 d d1 n q1 q2 (by omega) sv hr_sv SV) lt) (w := 0) (by decide) (by decide) pd_27 rfl (rest := []) rfl rfl (Nat.le_of_eq rfl) (by decide) (by decide) d48_8 ?_
  rintro _ _ lq ⟨⟨rfl, rfl⟩, elq⟩; rw [elq]
  show Wl Z p l e _ s m _ below meth c n0 _ lt h0 0 0 (mkF m 11 #[.val (.ref a), .val (.int (Int32.ofNat d)), .val (.int (Int32.ofNat d1)), .val (.int (Int32.ofNat n)), .unset] [])
  refine Wl.ild C d48_11 rfl ?_
  by_cases hb1 : (Int32.ofNat d) = (0 : Int32)
  · skip
    refine Wl.ifN C d48_12 (XT.i0_ne_f hb1) ?_
    refine Wl.ild C d48_15 rfl ?_
    refine Wl.ild C d48_16 rfl ?_
    by_cases hb2 : (Int32.ofNat d1) = (Int32.ofNat n)
    · skip
      refine Wl.icN C d48_17 (XT.ii_ne_f hb2) ?_
      refine Wl.ald C d48_20 rfl rfl ?_
      have z1 : d = 0 := is0 (by omega) hb1
      have z2 : d1 = n := inj32 (by omega) (by omega) hb2
      exact Wl.retV C (t := (.object ST)) rfl rfl (Or.inr (Or.inr (Or.inr (Or.inr ⟨rfl, rfl, rfl⟩)))) d48_21 (by decide) (by decide) ⟨a, va, rfl, Str.whole z1 z2 S, ext_refl h0, LO⟩
    · skip
      refine Wl.icY C (pc' := 22) d48_17 (XT.ii_ne_t hb2) (by decide) (by decide) ?_
      refine Wl.ild C d48_22 rfl ?_
      refine Wl.ild C d48_23 rfl ?_
      refine Wl.st (g' := (mkF m 25 #[.val (.ref a), .val (.int (Int32.ofNat d)), .val (.int (Int32.ofNat d1)), .val (.int (Int32.ofNat n)), .unset] [(.int ((Int32.ofNat d1) - (Int32.ofNat d)))])) (fun X t q => XS.isub X.here C.hx rfl (hb C.hby d48_24) rfl q) ?_
      rw [show ((Int32.ofNat d1) - (Int32.ofNat d)) = (Int32.ofNat (d1 - d)) from sub32 q1 (by omega)]
      show Wl Z p l e _ s m _ below meth c n0 _ lt h0 0 0 (mkF m 25 #[.val (.ref a), .val (.int (Int32.ofNat d)), .val (.int (Int32.ofNat d1)), .val (.int (Int32.ofNat n)), .unset] [(.int (Int32.ofNat (d1 - d)))])
      refine Wl.st (g' := (mkF m 27 #[.val (.ref a), .val (.int (Int32.ofNat d)), .val (.int (Int32.ofNat d1)), .val (.int (Int32.ofNat n)), .val (.int (Int32.ofNat (d1 - d)))] [])) (fun X t q => XS.istore X.here C.hx rfl (hb C.hby d48_25) rfl (l' := #[.val (.ref a), .val (.int (Int32.ofNat d)), .val (.int (Int32.ofNat d1)), .val (.int (Int32.ofNat n)), .val (.int (Int32.ofNat (d1 - d)))]) rfl q) ?_
      refine Wl.ald C d48_27 rfl rfl ?_
      refine Wl.callV C (x := (⟨ST, "isLatin1", "()Z"⟩ : MethodName)) (z := (⟨ST, "isLatin1", "()Z"⟩ : MethodName)) (K := ST) (wd hw 296) (wd hw 297) (wd hw 299) (wd hw 298) (wd hw 5) (wd hw 300) (by decide) (fun s' hZ' => notFace_of_selects (args := #[]) (mvT hZ' (wd hw 299))) S.1 (Met.toL (own_isL l Z a0 hw n0 h0 cs SC hcs a va n f S) lt) (w := 0) (by decide) (by decide) pd_15 rfl (rest := []) rfl rfl (Nat.le_of_eq rfl) (by decide) (by decide) d48_28 ?_
      rintro _ _ lq ⟨⟨rfl, rfl⟩, elq⟩; rw [elq]
      show Wl Z p l e _ s m _ below meth c n0 _ lt h0 0 0 (mkF m 31 #[.val (.ref a), .val (.int (Int32.ofNat d)), .val (.int (Int32.ofNat d1)), .val (.int (Int32.ofNat n)), .val (.int (Int32.ofNat (d1 - d)))] [(.int (1 : Int32))])
      refine Wl.ifN C d48_31 (XT.i0_eq_f (by decide)) ?_
      refine Wl.ald C d48_34 rfl rfl ?_
      refine Wl.getF C (wd hw 78) Via.refl S.2.1 d48_35 ?_
      show Wl Z p l e _ s m _ below meth c n0 _ lt h0 0 0 (mkF m 38 #[.val (.ref a), .val (.int (Int32.ofNat d)), .val (.int (Int32.ofNat d1)), .val (.int (Int32.ofNat n)), .val (.int (Int32.ofNat (d1 - d)))] [(.ref va)])
      refine Wl.ild C d48_38 rfl ?_
      refine Wl.ildW C d48_39 rfl ?_
      refine Wl.callS C (z := (⟨"java/lang/StringLatin1", "newString", "([BII)Ljava/lang/String;"⟩ : MethodName)) (wd hw 301) (wd hw 302) (wd hw 294) (wd hw 303) (by decide) (own_nst l Z a0 hw n0 h0 lt hsz EZ LO HD va n d (d1 - d) f S.2.2.2.1 S.2.2.2.2.1 S.2.2.2.2.2.2.1 (by omega) (by omega) (by omega)) (w := 0) (by decide) (by decide) pd_28 rfl (rest := []) rfl rfl (Nat.le_of_eq rfl) (by decide) (by decide) d48_41 ?_
      rintro _ h1 lt1 ⟨y, vy, rfl, S1, E1, L1⟩
      show Wl Z p l e _ s m _ below meth c n0 _ lt1 h1 2 68 (mkF m 44 #[.val (.ref a), .val (.int (Int32.ofNat d)), .val (.int (Int32.ofNat d1)), .val (.int (Int32.ofNat n)), .val (.int (Int32.ofNat (d1 - d)))] [(.ref y)])
      refine Wl.gto C (pc' := 57) d48_44 (by decide) (by decide) ?_
      exact Wl.retV C (t := (.object ST)) rfl rfl (Or.inr (Or.inr (Or.inr (Or.inr ⟨rfl, rfl, rfl⟩)))) d48_57 (by decide) (by decide) ⟨y, vy, rfl, S1, E1, L1⟩
  · skip
    refine Wl.ifY C (pc' := 22) d48_12 (XT.i0_ne_t hb1) (by decide) (by decide) ?_
    refine Wl.ild C d48_22 rfl ?_
    refine Wl.ild C d48_23 rfl ?_
    refine Wl.st (g' := (mkF m 25 #[.val (.ref a), .val (.int (Int32.ofNat d)), .val (.int (Int32.ofNat d1)), .val (.int (Int32.ofNat n)), .unset] [(.int ((Int32.ofNat d1) - (Int32.ofNat d)))])) (fun X t q => XS.isub X.here C.hx rfl (hb C.hby d48_24) rfl q) ?_
    rw [show ((Int32.ofNat d1) - (Int32.ofNat d)) = (Int32.ofNat (d1 - d)) from sub32 q1 (by omega)]
    show Wl Z p l e _ s m _ below meth c n0 _ lt h0 0 0 (mkF m 25 #[.val (.ref a), .val (.int (Int32.ofNat d)), .val (.int (Int32.ofNat d1)), .val (.int (Int32.ofNat n)), .unset] [(.int (Int32.ofNat (d1 - d)))])
    refine Wl.st (g' := (mkF m 27 #[.val (.ref a), .val (.int (Int32.ofNat d)), .val (.int (Int32.ofNat d1)), .val (.int (Int32.ofNat n)), .val (.int (Int32.ofNat (d1 - d)))] [])) (fun X t q => XS.istore X.here C.hx rfl (hb C.hby d48_25) rfl (l' := #[.val (.ref a), .val (.int (Int32.ofNat d)), .val (.int (Int32.ofNat d1)), .val (.int (Int32.ofNat n)), .val (.int (Int32.ofNat (d1 - d)))]) rfl q) ?_
    refine Wl.ald C d48_27 rfl rfl ?_
    refine Wl.callV C (x := (⟨ST, "isLatin1", "()Z"⟩ : MethodName)) (z := (⟨ST, "isLatin1", "()Z"⟩ : MethodName)) (K := ST) (wd hw 296) (wd hw 297) (wd hw 299) (wd hw 298) (wd hw 5) (wd hw 300) (by decide) (fun s' hZ' => notFace_of_selects (args := #[]) (mvT hZ' (wd hw 299))) S.1 (Met.toL (own_isL l Z a0 hw n0 h0 cs SC hcs a va n f S) lt) (w := 0) (by decide) (by decide) pd_15 rfl (rest := []) rfl rfl (Nat.le_of_eq rfl) (by decide) (by decide) d48_28 ?_
    rintro _ _ lq ⟨⟨rfl, rfl⟩, elq⟩; rw [elq]
    show Wl Z p l e _ s m _ below meth c n0 _ lt h0 0 0 (mkF m 31 #[.val (.ref a), .val (.int (Int32.ofNat d)), .val (.int (Int32.ofNat d1)), .val (.int (Int32.ofNat n)), .val (.int (Int32.ofNat (d1 - d)))] [(.int (1 : Int32))])
    refine Wl.ifN C d48_31 (XT.i0_eq_f (by decide)) ?_
    refine Wl.ald C d48_34 rfl rfl ?_
    refine Wl.getF C (wd hw 78) Via.refl S.2.1 d48_35 ?_
    show Wl Z p l e _ s m _ below meth c n0 _ lt h0 0 0 (mkF m 38 #[.val (.ref a), .val (.int (Int32.ofNat d)), .val (.int (Int32.ofNat d1)), .val (.int (Int32.ofNat n)), .val (.int (Int32.ofNat (d1 - d)))] [(.ref va)])
    refine Wl.ild C d48_38 rfl ?_
    refine Wl.ildW C d48_39 rfl ?_
    refine Wl.callS C (z := (⟨"java/lang/StringLatin1", "newString", "([BII)Ljava/lang/String;"⟩ : MethodName)) (wd hw 301) (wd hw 302) (wd hw 294) (wd hw 303) (by decide) (own_nst l Z a0 hw n0 h0 lt hsz EZ LO HD va n d (d1 - d) f S.2.2.2.1 S.2.2.2.2.1 S.2.2.2.2.2.2.1 (by omega) (by omega) (by omega)) (w := 0) (by decide) (by decide) pd_28 rfl (rest := []) rfl rfl (Nat.le_of_eq rfl) (by decide) (by decide) d48_41 ?_
    rintro _ h1 lt1 ⟨y, vy, rfl, S1, E1, L1⟩
    show Wl Z p l e _ s m _ below meth c n0 _ lt1 h1 2 68 (mkF m 44 #[.val (.ref a), .val (.int (Int32.ofNat d)), .val (.int (Int32.ofNat d1)), .val (.int (Int32.ofNat n)), .val (.int (Int32.ofNat (d1 - d)))] [(.ref y)])
    refine Wl.gto C (pc' := 57) d48_44 (by decide) (by decide) ?_
    exact Wl.retV C (t := (.object ST)) rfl rfl (Or.inr (Or.inr (Or.inr (Or.inr ⟨rfl, rfl, rfl⟩)))) d48_57 (by decide) (by decide) ⟨y, vy, rfl, S1, E1, L1⟩
theorem d47_0 : decode prog_43_method_3_code 0 = .ok (.iload_n 1, 1) := by decide +kernel
theorem d47_1 : decode prog_43_method_3_code 1 = .ok (.ifCond .lt 11, 3) := by decide +kernel
theorem d47_4 : decode prog_43_method_3_code 4 = .ok (.iload_n 1, 1) := by decide +kernel
theorem d47_5 : decode prog_43_method_3_code 5 = .ok (.aload_n 0, 1) := by decide +kernel
theorem d47_6 : decode prog_43_method_3_code 6 = .ok (.invokevirtual 47, 3) := by decide +kernel
theorem d47_9 : decode prog_43_method_3_code 9 = .ok (.if_icmp .lt 12, 3) := by decide +kernel
theorem d47_21 : decode prog_43_method_3_code 21 = .ok (.aload_n 0, 1) := by decide +kernel
theorem d47_22 : decode prog_43_method_3_code 22 = .ok (.getfield 7, 3) := by decide +kernel
theorem d47_25 : decode prog_43_method_3_code 25 = .ok (.aload_n 0, 1) := by decide +kernel
theorem d47_26 : decode prog_43_method_3_code 26 = .ok (.getfield 13, 3) := by decide +kernel
theorem d47_29 : decode prog_43_method_3_code 29 = .ok (.aload_n 0, 1) := by decide +kernel
theorem d47_30 : decode prog_43_method_3_code 30 = .ok (.getfield 17, 3) := by decide +kernel
theorem d47_33 : decode prog_43_method_3_code 33 = .ok (.iload_n 1, 1) := by decide +kernel
theorem d47_34 : decode prog_43_method_3_code 34 = .ok (.iadd, 1) := by decide +kernel
theorem d47_35 : decode prog_43_method_3_code 35 = .ok (.iaload, 1) := by decide +kernel
theorem d47_36 : decode prog_43_method_3_code 36 = .ok (.aload_n 0, 1) := by decide +kernel
theorem d47_37 : decode prog_43_method_3_code 37 = .ok (.getfield 13, 3) := by decide +kernel
theorem d47_40 : decode prog_43_method_3_code 40 = .ok (.aload_n 0, 1) := by decide +kernel
theorem d47_41 : decode prog_43_method_3_code 41 = .ok (.getfield 17, 3) := by decide +kernel
theorem d47_44 : decode prog_43_method_3_code 44 = .ok (.iload_n 1, 1) := by decide +kernel
theorem d47_45 : decode prog_43_method_3_code 45 = .ok (.iadd, 1) := by decide +kernel
theorem d47_46 : decode prog_43_method_3_code 46 = .ok (.iconst 1, 1) := by decide +kernel
theorem d47_47 : decode prog_43_method_3_code 47 = .ok (.iadd, 1) := by decide +kernel
theorem d47_48 : decode prog_43_method_3_code 48 = .ok (.iaload, 1) := by decide +kernel
theorem d47_49 : decode prog_43_method_3_code 49 = .ok (.invokevirtual 56, 3) := by decide +kernel
theorem d47_52 : decode prog_43_method_3_code 52 = .ok (.areturn, 1) := by decide +kernel
set_option maxRecDepth 65536 in
set_option maxHeartbeats 40000000 in
theorem own_get (l : Launch) (Z : State) (a0 : Array Value) (hw : ∀ d ∈ tables_1, d.before a0 Z = true) (n0 : Nat) (h0 : Heap) (lt : Option Addr) (hsz : n0 ≤ h0.size) (EZ : Ext Z.heap h0) (LO : LtOk Z h0 lt) (HD : ConstHeldL Z "java/lang/StringLatin1" 151) (cs : Int32) (SC : Sta Z h0 ST "COMPACT_STRINGS" "Z" (.int cs)) (hcs : ¬ cs = (0 : Int32)) (sv : Value) (hr_sv : sv.isRef = true) (SV : Sta Z h0 "jdk/internal/util/Preconditions" "SIOOBE_FORMATTER" "Ljava/util/function/BiFunction;" sv) (q x vx bd : Addr) (k M n : Nat) (G ff : Nat → Value) (P : Pa Z h0 q x vx bd k M n G ff) (i d d1 : Nat) (hi : i < k) (hM : k < M) (hk : M ≤ 8) (e1 : ff i = .int (Int32.ofNat d)) (e2 : ff (i + 1) = .int (Int32.ofNat d1)) (q1 : d ≤ d1) (q2 : d1 ≤ n) (q4 : n ≤ 64) :
    MetL l Z n0 (⟨PP, "get", "(I)Ljava/lang/String;"⟩ : MethodName) prog_43_method_3_code 2 (some (.object ST)) ({ frames := 5, cells := 2, slots := 68, locals := 89 } : Room) #[(.ref q), (.int (Int32.ofNat i))] lt h0 (fun r h lt' => ∃ y vy : Addr, r = some (.ref y) ∧ Str Z h y vy (d1 - d) (fun i => G (d + i)) ∧ Ext h0 h ∧ LtOk Z h lt') := by
  refine MetL.ofH (plainFor_of_name pn_6) #[.val (.ref q), .val (.int (Int32.ofNat i))] (fun m => by first | (simp [entryFrame, mkF, argsToLocals, Value.category]; done) | rfl) ?_
  intro p e s m below meth c C hs0
  refine Wl.ild C d47_0 rfl ?_
  refine Wl.ifN C d47_1 (XT.i0_lt_f (nn32 (by omega))) ?_
  refine Wl.ild C d47_4 rfl ?_
  refine Wl.ald C d47_5 rfl rfl ?_
  refine Wl.callV C (x := (⟨PP, "size", "()I"⟩ : MethodName)) (z := (⟨PP, "size", "()I"⟩ : MethodName)) (K := PP) (wd hw 271) (wd hw 48) (wd hw 50) (wd hw 49) (wd hw 35) (wd hw 51) (by decide) (fun s' hZ' => notFace_of_selects (args := #[]) (mvT hZ' (wd hw 50))) P.1 (Met.toL (own_size l Z a0 hw n0 h0 q k P.2.1 P.2.2.1) lt) (w := 1) (by decide) (by decide) pd_1 rfl (rest := [(.int (Int32.ofNat i))]) rfl rfl (Nat.le_of_eq rfl) (by decide) (by decide) d47_6 ?_
  rintro _ _ lq ⟨⟨rfl, rfl⟩, elq⟩; rw [elq]
  show Wl Z p l e _ s m _ below meth c n0 _ lt h0 0 0 (mkF m 9 #[.val (.ref q), .val (.int (Int32.ofNat i))] [(.int (Int32.ofNat k)), (.int (Int32.ofNat i))])
  refine Wl.icY C (pc' := 21) d47_9 (XT.ii_lt_t ((lt32 (by omega) (by omega)).mpr (by omega))) (by decide) (by decide) ?_
  refine Wl.ald C d47_21 rfl rfl ?_
  refine Wl.getF C (wd hw 262) Via.refl P.2.2.2.1 d47_22 ?_
  show Wl Z p l e _ s m _ below meth c n0 _ lt h0 0 0 (mkF m 25 #[.val (.ref q), .val (.int (Int32.ofNat i))] [(.ref x)])
  refine Wl.ald C d47_25 rfl rfl ?_
  refine Wl.getF C (wd hw 264) Via.refl P.2.2.2.2.1 d47_26 ?_
  show Wl Z p l e _ s m _ below meth c n0 _ lt h0 0 0 (mkF m 29 #[.val (.ref q), .val (.int (Int32.ofNat i))] [(.ref bd), (.ref x)])
  refine Wl.ald C d47_29 rfl rfl ?_
  refine Wl.getF C (wd hw 54) Via.refl P.2.2.1 d47_30 ?_
  show Wl Z p l e _ s m _ below meth c n0 _ lt h0 0 0 (mkF m 33 #[.val (.ref q), .val (.int (Int32.ofNat i))] [(.int (0 : Int32)), (.ref bd), (.ref x)])
  refine Wl.ild C d47_33 rfl ?_
  refine Wl.st (g' := (mkF m 35 #[.val (.ref q), .val (.int (Int32.ofNat i))] [(.int ((0 : Int32) + (Int32.ofNat i))), (.ref bd), (.ref x)])) (fun X t q => XS.iadd X.here C.hx rfl (hb C.hby d47_34) rfl q) ?_
  rw [show ((0 : Int32) + (Int32.ofNat i)) = (Int32.ofNat i) from z32 _]
  show Wl Z p l e _ s m _ below meth c n0 _ lt h0 0 0 (mkF m 35 #[.val (.ref q), .val (.int (Int32.ofNat i))] [(.int (Int32.ofNat i)), (.ref bd), (.ref x)])
  refine Wl.fLdI C P.2.2.2.2.2.2 (cl32 (by omega)) (nn32 (by omega)) (by omega) (v := (.int (Int32.ofNat d))) e1 d47_35 ?_
  show Wl Z p l e _ s m _ below meth c n0 _ lt h0 0 0 (mkF m 36 #[.val (.ref q), .val (.int (Int32.ofNat i))] [(.int (Int32.ofNat d)), (.ref x)])
  refine Wl.ald C d47_36 rfl rfl ?_
  refine Wl.getF C (wd hw 264) Via.refl P.2.2.2.2.1 d47_37 ?_
  show Wl Z p l e _ s m _ below meth c n0 _ lt h0 0 0 (mkF m 40 #[.val (.ref q), .val (.int (Int32.ofNat i))] [(.ref bd), (.int (Int32.ofNat d)), (.ref x)])
  refine Wl.ald C d47_40 rfl rfl ?_
  refine Wl.getF C (wd hw 54) Via.refl P.2.2.1 d47_41 ?_
  show Wl Z p l e _ s m _ below meth c n0 _ lt h0 0 0 (mkF m 44 #[.val (.ref q), .val (.int (Int32.ofNat i))] [(.int (0 : Int32)), (.ref bd), (.int (Int32.ofNat d)), (.ref x)])
  refine Wl.ild C d47_44 rfl ?_
  refine Wl.st (g' := (mkF m 46 #[.val (.ref q), .val (.int (Int32.ofNat i))] [(.int ((0 : Int32) + (Int32.ofNat i))), (.ref bd), (.int (Int32.ofNat d)), (.ref x)])) (fun X t q => XS.iadd X.here C.hx rfl (hb C.hby d47_45) rfl q) ?_
  rw [show ((0 : Int32) + (Int32.ofNat i)) = (Int32.ofNat i) from z32 _]
  show Wl Z p l e _ s m _ below meth c n0 _ lt h0 0 0 (mkF m 46 #[.val (.ref q), .val (.int (Int32.ofNat i))] [(.int (Int32.ofNat i)), (.ref bd), (.int (Int32.ofNat d)), (.ref x)])
  refine Wl.st (g' := (mkF m 47 #[.val (.ref q), .val (.int (Int32.ofNat i))] [(.int (1 : Int32)), (.int (Int32.ofNat i)), (.ref bd), (.int (Int32.ofNat d)), (.ref x)])) (fun X t q => XS.iconst X.here C.hx rfl (hb C.hby d47_46) q) ?_
  refine Wl.st (g' := (mkF m 48 #[.val (.ref q), .val (.int (Int32.ofNat i))] [(.int ((Int32.ofNat i) + (1 : Int32))), (.ref bd), (.int (Int32.ofNat d)), (.ref x)])) (fun X t q => XS.iadd X.here C.hx rfl (hb C.hby d47_47) rfl q) ?_
  rw [show ((Int32.ofNat i) + (1 : Int32)) = (Int32.ofNat (i + 1)) from one32 (by omega)]
  show Wl Z p l e _ s m _ below meth c n0 _ lt h0 0 0 (mkF m 48 #[.val (.ref q), .val (.int (Int32.ofNat i))] [(.int (Int32.ofNat (i + 1))), (.ref bd), (.int (Int32.ofNat d)), (.ref x)])
  refine Wl.fLdI C P.2.2.2.2.2.2 (cl32 (by omega)) (nn32 (by omega)) (by omega) (v := (.int (Int32.ofNat d1))) e2 d47_48 ?_
  show Wl Z p l e _ s m _ below meth c n0 _ lt h0 0 0 (mkF m 49 #[.val (.ref q), .val (.int (Int32.ofNat i))] [(.int (Int32.ofNat d1)), (.int (Int32.ofNat d)), (.ref x)])
  refine Wl.callV C (x := (⟨ST, "substring", "(II)Ljava/lang/String;"⟩ : MethodName)) (z := (⟨ST, "substring", "(II)Ljava/lang/String;"⟩ : MethodName)) (K := ST) (wd hw 272) (wd hw 273) (wd hw 275) (wd hw 274) (wd hw 5) (wd hw 276) (by decide) (fun s' hZ' => notFace_of_selects (args := #[]) (mvT hZ' (wd hw 275))) P.2.2.2.2.2.1.1 (own_sub l Z a0 hw n0 h0 lt hsz EZ LO HD cs SC hcs sv hr_sv SV x vx n G P.2.2.2.2.2.1 d d1 q1 q2 q4) (w := 0) (by decide) (by decide) pd_29 rfl (rest := []) rfl rfl (Nat.le_of_eq rfl) (by decide) (by decide) d47_49 ?_
  rintro _ h1 lt1 ⟨y, vy, rfl, S1, E1, L1⟩
  show Wl Z p l e _ s m _ below meth c n0 _ lt1 h1 2 68 (mkF m 52 #[.val (.ref q), .val (.int (Int32.ofNat i))] [(.ref y)])
  exact Wl.retV C (t := (.object ST)) rfl rfl (Or.inr (Or.inr (Or.inr (Or.inr ⟨rfl, rfl, rfl⟩)))) d47_52 (by decide) (by decide) ⟨y, vy, rfl, S1, E1, L1⟩
theorem d6_0 : decode method_3_code 0 = .ok (.aload_n 0, 1) := by decide +kernel
theorem d6_1 : decode method_3_code 1 = .ok (.invokevirtual 33, 3) := by decide +kernel
theorem d6_4 : decode method_3_code 4 = .ok (.iload_n 1, 1) := by decide +kernel
theorem d6_5 : decode method_3_code 5 = .ok (.if_icmp .eq 5, 3) := by decide +kernel
theorem d6_10 : decode method_3_code 10 = .ok (.iload_n 1, 1) := by decide +kernel
theorem d6_11 : decode method_3_code 11 = .ok (.iconst 1, 1) := by decide +kernel
theorem d6_12 : decode method_3_code 12 = .ok (.if_icmp .lt 17, 3) := by decide +kernel
theorem d6_15 : decode method_3_code 15 = .ok (.aload_n 0, 1) := by decide +kernel
theorem d6_16 : decode method_3_code 16 = .ok (.iconst 0, 1) := by decide +kernel
theorem d6_17 : decode method_3_code 17 = .ok (.invokevirtual 39, 3) := by decide +kernel
theorem d6_20 : decode method_3_code 20 = .ok (.aload_n 2, 1) := by decide +kernel
theorem d6_21 : decode method_3_code 21 = .ok (.invokevirtual 43, 3) := by decide +kernel
theorem d6_24 : decode method_3_code 24 = .ok (.ifCond .ne 5, 3) := by decide +kernel
theorem d6_29 : decode method_3_code 29 = .ok (.iload_n 1, 1) := by decide +kernel
theorem d6_30 : decode method_3_code 30 = .ok (.iconst 2, 1) := by decide +kernel
theorem d6_31 : decode method_3_code 31 = .ok (.if_icmp .lt 17, 3) := by decide +kernel
theorem d6_34 : decode method_3_code 34 = .ok (.aload_n 0, 1) := by decide +kernel
theorem d6_35 : decode method_3_code 35 = .ok (.iconst 1, 1) := by decide +kernel
theorem d6_36 : decode method_3_code 36 = .ok (.invokevirtual 39, 3) := by decide +kernel
theorem d6_39 : decode method_3_code 39 = .ok (.aload_n 3, 1) := by decide +kernel
theorem d6_40 : decode method_3_code 40 = .ok (.invokevirtual 43, 3) := by decide +kernel
theorem d6_43 : decode method_3_code 43 = .ok (.ifCond .ne 5, 3) := by decide +kernel
theorem d6_48 : decode method_3_code 48 = .ok (.iconst 1, 1) := by decide +kernel
theorem d6_49 : decode method_3_code 49 = .ok (.ireturn, 1) := by decide +kernel
set_option maxRecDepth 65536 in
set_option maxHeartbeats 40000000 in
theorem own_h0 (l : Launch) (Z : State) (a0 : Array Value) (hw : ∀ d ∈ tables_1, d.before a0 Z = true) (n0 : Nat) (h0 : Heap) (q s0 s1 : Addr) (P : P0 Z h0 q) :
    Met false l Z n0 (⟨"com/example/amendatory/amendatory/BuilderClearPinLaw", "holds", "(Lcom/example/amendatory/amendatory/Paragraphs;ILjava/lang/String;Ljava/lang/String;)Z"⟩ : MethodName) method_3_code 4 (some .boolean) ({ frames := 1, cells := 0, slots := 0, locals := 12 } : Room) #[(.ref q), (.int (0 : Int32)), (.ref s0), (.ref s1)] h0 (fun r h => r = some (.int (1 : Int32)) ∧ h0 = h) := by
  refine Met.of (plainFor_of_name pn_10) #[.val (.ref q), .val (.int (0 : Int32)), .val (.ref s0), .val (.ref s1)] (fun m => by first | (simp [entryFrame, mkF, argsToLocals, Value.category]; done) | rfl) ?_
  intro p e s m below meth c C
  refine Wk.ald C d6_0 rfl rfl ?_
  refine Wk.callV C (x := (⟨PP, "size", "()I"⟩ : MethodName)) (z := (⟨PP, "size", "()I"⟩ : MethodName)) (K := PP) (wd hw 47) (wd hw 48) (wd hw 50) (wd hw 49) (wd hw 35) (wd hw 51) (by decide) (fun s' hZ' => notFace_of_selects (args := #[]) (mvT hZ' (wd hw 50))) P.1 (own_size l Z a0 hw n0 h0 q 0 P.2.1 P.2.2) (w := 0) (by decide) (by decide) pd_1 rfl (rest := []) rfl rfl (Nat.le_of_eq rfl) (by decide) (by decide) d6_1 ?_
  rintro _ _ ⟨rfl, rfl⟩
  show Wk _ p l e _ s m _ below meth c n0 _ h0 0 0 (mkF m 4 #[.val (.ref q), .val (.int (0 : Int32)), .val (.ref s0), .val (.ref s1)] [(.int (0 : Int32))])
  refine Wk.ild C d6_4 rfl ?_
  refine Wk.icY C (pc' := 10) d6_5 (XT.ii_eq_t (by decide)) (by decide) (by decide) ?_
  refine Wk.ild C d6_10 rfl ?_
  refine Wk.st (g' := (mkF m 12 #[.val (.ref q), .val (.int (0 : Int32)), .val (.ref s0), .val (.ref s1)] [(.int (1 : Int32)), (.int (0 : Int32))])) (fun X t q => XS.iconst X.here C.hx rfl (hb C.hby d6_11) q) ?_
  refine Wk.icY C (pc' := 29) d6_12 (XT.ii_lt_t (by decide)) (by decide) (by decide) ?_
  refine Wk.ild C d6_29 rfl ?_
  refine Wk.st (g' := (mkF m 31 #[.val (.ref q), .val (.int (0 : Int32)), .val (.ref s0), .val (.ref s1)] [(.int (2 : Int32)), (.int (0 : Int32))])) (fun X t q => XS.iconst X.here C.hx rfl (hb C.hby d6_30) q) ?_
  refine Wk.icY C (pc' := 48) d6_31 (XT.ii_lt_t (by decide)) (by decide) (by decide) ?_
  refine Wk.st (g' := (mkF m 49 #[.val (.ref q), .val (.int (0 : Int32)), .val (.ref s0), .val (.ref s1)] [(.int (1 : Int32))])) (fun X t q => XS.iconst X.here C.hx rfl (hb C.hby d6_48) q) ?_
  exact Wk.retV C (t := .boolean) rfl rfl (Or.inl ⟨rfl, by simp, _, rfl⟩) d6_49 (by decide) (by decide) ⟨rfl, rfl⟩
set_option maxRecDepth 65536 in
set_option maxHeartbeats 40000000 in
theorem own_h1 (l : Launch) (Z : State) (a0 : Array Value) (hw : ∀ d ∈ tables_1, d.before a0 Z = true) (n0 : Nat) (h0 : Heap) (lt : Option Addr) (hsz : n0 ≤ h0.size) (EZ : Ext Z.heap h0) (LO : LtOk Z h0 lt) (HD : ConstHeldL Z "java/lang/StringLatin1" 151) (cs : Int32) (SC : Sta Z h0 ST "COMPACT_STRINGS" "Z" (.int cs)) (hcs : ¬ cs = (0 : Int32)) (sv : Value) (hr_sv : sv.isRef = true) (SV : Sta Z h0 "jdk/internal/util/Preconditions" "SIOOBE_FORMATTER" "Ljava/util/function/BiFunction;" sv) (q x vx bd : Addr) (M n : Nat) (G ff : Nat → Value) (P : Pa Z h0 q x vx bd 1 M n G ff) (a va : Addr) (na : Nat) (fa : Nat → Value) (SA : Str Z h0 a va na fa) (a1 : Addr) (hM : 1 < M) (hM8 : M ≤ 8) (e0 : ff 0 = .int (Int32.ofNat 0)) (e1 : ff 1 = .int (Int32.ofNat na)) (hn : n = na) (q4 : n ≤ 64) (hG0 : ∀ i, i < na → G (0 + i) = fa i) :
    MetL l Z n0 (⟨"com/example/amendatory/amendatory/BuilderClearPinLaw", "holds", "(Lcom/example/amendatory/amendatory/Paragraphs;ILjava/lang/String;Ljava/lang/String;)Z"⟩ : MethodName) method_3_code 4 (some .boolean) ({ frames := 6, cells := 2, slots := 68, locals := 102 } : Room) #[(.ref q), (.int (1 : Int32)), (.ref a), (.ref a1)] lt h0 (fun r h lt' => r = some (.int (1 : Int32)) ∧ Ext h0 h ∧ LtOk Z h lt') := by
  refine MetL.ofH (plainFor_of_name pn_10) #[.val (.ref q), .val (.int (1 : Int32)), .val (.ref a), .val (.ref a1)] (fun m => by first | (simp [entryFrame, mkF, argsToLocals, Value.category]; done) | rfl) ?_
  intro p e s m below meth c C hs0
  refine Wl.ald C d6_0 rfl rfl ?_
  refine Wl.callV C (x := (⟨PP, "size", "()I"⟩ : MethodName)) (z := (⟨PP, "size", "()I"⟩ : MethodName)) (K := PP) (wd hw 47) (wd hw 48) (wd hw 50) (wd hw 49) (wd hw 35) (wd hw 51) (by decide) (fun s' hZ' => notFace_of_selects (args := #[]) (mvT hZ' (wd hw 50))) P.1 (Met.toL (own_size l Z a0 hw n0 h0 q 1 P.2.1 P.2.2.1) lt) (w := 0) (by decide) (by decide) pd_1 rfl (rest := []) rfl rfl (Nat.le_of_eq rfl) (by decide) (by decide) d6_1 ?_
  rintro _ _ lq ⟨⟨rfl, rfl⟩, elq⟩; rw [elq]
  show Wl Z p l e _ s m _ below meth c n0 _ lt h0 0 0 (mkF m 4 #[.val (.ref q), .val (.int (1 : Int32)), .val (.ref a), .val (.ref a1)] [(.int (1 : Int32))])
  refine Wl.ild C d6_4 rfl ?_
  refine Wl.icY C (pc' := 10) d6_5 (XT.ii_eq_t (by decide)) (by decide) (by decide) ?_
  refine Wl.ild C d6_10 rfl ?_
  refine Wl.st (g' := (mkF m 12 #[.val (.ref q), .val (.int (1 : Int32)), .val (.ref a), .val (.ref a1)] [(.int (1 : Int32)), (.int (1 : Int32))])) (fun X t q => XS.iconst X.here C.hx rfl (hb C.hby d6_11) q) ?_
  refine Wl.icN C d6_12 (XT.ii_lt_f (by decide)) ?_
  refine Wl.ald C d6_15 rfl rfl ?_
  refine Wl.st (g' := (mkF m 17 #[.val (.ref q), .val (.int (1 : Int32)), .val (.ref a), .val (.ref a1)] [(.int (0 : Int32)), (.ref q)])) (fun X t q => XS.iconst X.here C.hx rfl (hb C.hby d6_16) q) ?_
  refine Wl.callV C (x := (⟨PP, "get", "(I)Ljava/lang/String;"⟩ : MethodName)) (z := (⟨PP, "get", "(I)Ljava/lang/String;"⟩ : MethodName)) (K := PP) (wd hw 266) (wd hw 267) (wd hw 269) (wd hw 268) (wd hw 35) (wd hw 270) (by decide) (fun s' hZ' => notFace_of_selects (args := #[]) (mvT hZ' (wd hw 269))) P.1 (own_get l Z a0 hw n0 h0 lt hsz EZ LO HD cs SC hcs sv hr_sv SV q x vx bd 1 M n G ff P 0 0 na (by omega) hM hM8 e0 e1 (by omega) (by omega) q4) (w := 0) (by decide) (by decide) pd_30 rfl (rest := []) rfl rfl (Nat.le_of_eq rfl) (by decide) (by decide) d6_17 ?_
  rintro _ h_0 lt_0 ⟨y_0, vy_0, rfl, S_0, E_0, L_0⟩
  show Wl Z p l e _ s m _ below meth c n0 _ lt_0 h_0 2 68 (mkF m 20 #[.val (.ref q), .val (.int (1 : Int32)), .val (.ref a), .val (.ref a1)] [(.ref y_0)])
  have EE_0 : Ext h0 h_0 := E_0
  refine Wl.ald C d6_20 rfl rfl ?_
  refine Wl.callV C (x := (⟨ST, "equals", "(Ljava/lang/Object;)Z"⟩ : MethodName)) (z := (⟨ST, "equals", "(Ljava/lang/Object;)Z"⟩ : MethodName)) (K := ST) (wd hw 286) (wd hw 287) (wd hw 289) (wd hw 288) (wd hw 5) (wd hw 290) (by decide) (fun s' hZ' => notFace_of_selects (args := #[]) (mvT hZ' (wd hw 289))) S_0.1 (Met.toL (own_eq l Z a0 hw n0 h_0 cs (SC.ext EE_0) hcs y_0 vy_0 (fun i => G (0 + i)) a va na fa (SA.ext EE_0) (Str.cast (by omega) S_0) hG0) lt_0) (w := 0) (by decide) (by decide) pd_31 rfl (rest := []) rfl rfl (Nat.le_of_eq rfl) (by decide) (by decide) d6_21 ?_
  rintro _ _ lq ⟨⟨rfl, rfl⟩, elq⟩; rw [elq]
  show Wl Z p l e _ s m _ below meth c n0 _ lt_0 h_0 2 68 (mkF m 24 #[.val (.ref q), .val (.int (1 : Int32)), .val (.ref a), .val (.ref a1)] [(.int (1 : Int32))])
  refine Wl.ifY C (pc' := 29) d6_24 (XT.i0_ne_t (by decide)) (by decide) (by decide) ?_
  refine Wl.ild C d6_29 rfl ?_
  refine Wl.st (g' := (mkF m 31 #[.val (.ref q), .val (.int (1 : Int32)), .val (.ref a), .val (.ref a1)] [(.int (2 : Int32)), (.int (1 : Int32))])) (fun X t q => XS.iconst X.here C.hx rfl (hb C.hby d6_30) q) ?_
  refine Wl.icY C (pc' := 48) d6_31 (XT.ii_lt_t (by decide)) (by decide) (by decide) ?_
  refine Wl.st (g' := (mkF m 49 #[.val (.ref q), .val (.int (1 : Int32)), .val (.ref a), .val (.ref a1)] [(.int (1 : Int32))])) (fun X t q => XS.iconst X.here C.hx rfl (hb C.hby d6_48) q) ?_
  exact Wl.retV C (t := .boolean) rfl rfl (Or.inl ⟨rfl, by simp, _, rfl⟩) d6_49 (by decide) (by decide) ⟨rfl, EE_0, L_0⟩
set_option maxRecDepth 65536 in
set_option maxHeartbeats 40000000 in
theorem own_h2 (l : Launch) (Z : State) (a0 : Array Value) (hw : ∀ d ∈ tables_1, d.before a0 Z = true) (n0 : Nat) (h0 : Heap) (lt : Option Addr) (hsz : n0 ≤ h0.size) (EZ : Ext Z.heap h0) (LO : LtOk Z h0 lt) (HD : ConstHeldL Z "java/lang/StringLatin1" 151) (cs : Int32) (SC : Sta Z h0 ST "COMPACT_STRINGS" "Z" (.int cs)) (hcs : ¬ cs = (0 : Int32)) (sv : Value) (hr_sv : sv.isRef = true) (SV : Sta Z h0 "jdk/internal/util/Preconditions" "SIOOBE_FORMATTER" "Ljava/util/function/BiFunction;" sv) (q x vx bd : Addr) (M n : Nat) (G ff : Nat → Value) (P : Pa Z h0 q x vx bd 2 M n G ff) (a va : Addr) (na : Nat) (fa : Nat → Value) (SA : Str Z h0 a va na fa) (a1 va1 : Addr) (nb : Nat) (fb : Nat → Value) (SB : Str Z h0 a1 va1 nb fb) (hM : 2 < M) (hM8 : M ≤ 8) (e0 : ff 0 = .int (Int32.ofNat 0)) (e1 : ff 1 = .int (Int32.ofNat na)) (e2 : ff 2 = .int (Int32.ofNat (na + nb))) (hn : n = na + nb) (q4 : n ≤ 64) (hG0 : ∀ i, i < na → G (0 + i) = fa i) (hG1 : ∀ i, i < nb → G (na + i) = fb i) :
    MetL l Z n0 (⟨"com/example/amendatory/amendatory/BuilderClearPinLaw", "holds", "(Lcom/example/amendatory/amendatory/Paragraphs;ILjava/lang/String;Ljava/lang/String;)Z"⟩ : MethodName) method_3_code 4 (some .boolean) ({ frames := 6, cells := 4, slots := 136, locals := 102 } : Room) #[(.ref q), (.int (2 : Int32)), (.ref a), (.ref a1)] lt h0 (fun r h lt' => r = some (.int (1 : Int32)) ∧ Ext h0 h ∧ LtOk Z h lt') := by
  refine MetL.ofH (plainFor_of_name pn_10) #[.val (.ref q), .val (.int (2 : Int32)), .val (.ref a), .val (.ref a1)] (fun m => by first | (simp [entryFrame, mkF, argsToLocals, Value.category]; done) | rfl) ?_
  intro p e s m below meth c C hs0
  refine Wl.ald C d6_0 rfl rfl ?_
  refine Wl.callV C (x := (⟨PP, "size", "()I"⟩ : MethodName)) (z := (⟨PP, "size", "()I"⟩ : MethodName)) (K := PP) (wd hw 47) (wd hw 48) (wd hw 50) (wd hw 49) (wd hw 35) (wd hw 51) (by decide) (fun s' hZ' => notFace_of_selects (args := #[]) (mvT hZ' (wd hw 50))) P.1 (Met.toL (own_size l Z a0 hw n0 h0 q 2 P.2.1 P.2.2.1) lt) (w := 0) (by decide) (by decide) pd_1 rfl (rest := []) rfl rfl (Nat.le_of_eq rfl) (by decide) (by decide) d6_1 ?_
  rintro _ _ lq ⟨⟨rfl, rfl⟩, elq⟩; rw [elq]
  show Wl Z p l e _ s m _ below meth c n0 _ lt h0 0 0 (mkF m 4 #[.val (.ref q), .val (.int (2 : Int32)), .val (.ref a), .val (.ref a1)] [(.int (2 : Int32))])
  refine Wl.ild C d6_4 rfl ?_
  refine Wl.icY C (pc' := 10) d6_5 (XT.ii_eq_t (by decide)) (by decide) (by decide) ?_
  refine Wl.ild C d6_10 rfl ?_
  refine Wl.st (g' := (mkF m 12 #[.val (.ref q), .val (.int (2 : Int32)), .val (.ref a), .val (.ref a1)] [(.int (1 : Int32)), (.int (2 : Int32))])) (fun X t q => XS.iconst X.here C.hx rfl (hb C.hby d6_11) q) ?_
  refine Wl.icN C d6_12 (XT.ii_lt_f (by decide)) ?_
  refine Wl.ald C d6_15 rfl rfl ?_
  refine Wl.st (g' := (mkF m 17 #[.val (.ref q), .val (.int (2 : Int32)), .val (.ref a), .val (.ref a1)] [(.int (0 : Int32)), (.ref q)])) (fun X t q => XS.iconst X.here C.hx rfl (hb C.hby d6_16) q) ?_
  refine Wl.callV C (x := (⟨PP, "get", "(I)Ljava/lang/String;"⟩ : MethodName)) (z := (⟨PP, "get", "(I)Ljava/lang/String;"⟩ : MethodName)) (K := PP) (wd hw 266) (wd hw 267) (wd hw 269) (wd hw 268) (wd hw 35) (wd hw 270) (by decide) (fun s' hZ' => notFace_of_selects (args := #[]) (mvT hZ' (wd hw 269))) P.1 (own_get l Z a0 hw n0 h0 lt hsz EZ LO HD cs SC hcs sv hr_sv SV q x vx bd 2 M n G ff P 0 0 na (by omega) hM hM8 e0 e1 (by omega) (by omega) q4) (w := 0) (by decide) (by decide) pd_30 rfl (rest := []) rfl rfl (Nat.le_of_eq rfl) (by decide) (by decide) d6_17 ?_
  rintro _ h_0 lt_0 ⟨y_0, vy_0, rfl, S_0, E_0, L_0⟩
  show Wl Z p l e _ s m _ below meth c n0 _ lt_0 h_0 2 68 (mkF m 20 #[.val (.ref q), .val (.int (2 : Int32)), .val (.ref a), .val (.ref a1)] [(.ref y_0)])
  have EE_0 : Ext h0 h_0 := E_0
  refine Wl.ald C d6_20 rfl rfl ?_
  refine Wl.callV C (x := (⟨ST, "equals", "(Ljava/lang/Object;)Z"⟩ : MethodName)) (z := (⟨ST, "equals", "(Ljava/lang/Object;)Z"⟩ : MethodName)) (K := ST) (wd hw 286) (wd hw 287) (wd hw 289) (wd hw 288) (wd hw 5) (wd hw 290) (by decide) (fun s' hZ' => notFace_of_selects (args := #[]) (mvT hZ' (wd hw 289))) S_0.1 (Met.toL (own_eq l Z a0 hw n0 h_0 cs (SC.ext EE_0) hcs y_0 vy_0 (fun i => G (0 + i)) a va na fa (SA.ext EE_0) (Str.cast (by omega) S_0) hG0) lt_0) (w := 0) (by decide) (by decide) pd_31 rfl (rest := []) rfl rfl (Nat.le_of_eq rfl) (by decide) (by decide) d6_21 ?_
  rintro _ _ lq ⟨⟨rfl, rfl⟩, elq⟩; rw [elq]
  show Wl Z p l e _ s m _ below meth c n0 _ lt_0 h_0 2 68 (mkF m 24 #[.val (.ref q), .val (.int (2 : Int32)), .val (.ref a), .val (.ref a1)] [(.int (1 : Int32))])
  refine Wl.ifY C (pc' := 29) d6_24 (XT.i0_ne_t (by decide)) (by decide) (by decide) ?_
  refine Wl.ild C d6_29 rfl ?_
  refine Wl.st (g' := (mkF m 31 #[.val (.ref q), .val (.int (2 : Int32)), .val (.ref a), .val (.ref a1)] [(.int (2 : Int32)), (.int (2 : Int32))])) (fun X t q => XS.iconst X.here C.hx rfl (hb C.hby d6_30) q) ?_
  refine Wl.icN C d6_31 (XT.ii_lt_f (by decide)) ?_
  refine Wl.ald C d6_34 rfl rfl ?_
  refine Wl.st (g' := (mkF m 36 #[.val (.ref q), .val (.int (2 : Int32)), .val (.ref a), .val (.ref a1)] [(.int (1 : Int32)), (.ref q)])) (fun X t q => XS.iconst X.here C.hx rfl (hb C.hby d6_35) q) ?_
  refine Wl.callV C (x := (⟨PP, "get", "(I)Ljava/lang/String;"⟩ : MethodName)) (z := (⟨PP, "get", "(I)Ljava/lang/String;"⟩ : MethodName)) (K := PP) (wd hw 266) (wd hw 267) (wd hw 269) (wd hw 268) (wd hw 35) (wd hw 270) (by decide) (fun s' hZ' => notFace_of_selects (args := #[]) (mvT hZ' (wd hw 269))) (P.1.ext EE_0) (own_get l Z a0 hw n0 h_0 lt_0 (Nat.le_trans hsz EE_0.1) (ext_trans EZ EE_0) L_0 HD cs (SC.ext EE_0) hcs sv hr_sv (SV.ext EE_0) q x vx bd 2 M n G ff (P.ext EE_0) 1 na (na + nb) (by omega) hM hM8 e1 e2 (by omega) (by omega) q4) (w := 0) (by decide) (by decide) pd_30 rfl (rest := []) rfl rfl (Nat.le_of_eq rfl) (by decide) (by decide) d6_36 ?_
  rintro _ h_1 lt_1 ⟨y_1, vy_1, rfl, S_1, E_1, L_1⟩
  show Wl Z p l e _ s m _ below meth c n0 _ lt_1 h_1 4 136 (mkF m 39 #[.val (.ref q), .val (.int (2 : Int32)), .val (.ref a), .val (.ref a1)] [(.ref y_1)])
  have EE_1 : Ext h0 h_1 := ext_trans EE_0 E_1
  refine Wl.ald C d6_39 rfl rfl ?_
  refine Wl.callV C (x := (⟨ST, "equals", "(Ljava/lang/Object;)Z"⟩ : MethodName)) (z := (⟨ST, "equals", "(Ljava/lang/Object;)Z"⟩ : MethodName)) (K := ST) (wd hw 286) (wd hw 287) (wd hw 289) (wd hw 288) (wd hw 5) (wd hw 290) (by decide) (fun s' hZ' => notFace_of_selects (args := #[]) (mvT hZ' (wd hw 289))) S_1.1 (Met.toL (own_eq l Z a0 hw n0 h_1 cs (SC.ext EE_1) hcs y_1 vy_1 (fun i => G (na + i)) a1 va1 nb fb (SB.ext EE_1) (Str.cast (by omega) S_1) hG1) lt_1) (w := 0) (by decide) (by decide) pd_31 rfl (rest := []) rfl rfl (Nat.le_of_eq rfl) (by decide) (by decide) d6_40 ?_
  rintro _ _ lq ⟨⟨rfl, rfl⟩, elq⟩; rw [elq]
  show Wl Z p l e _ s m _ below meth c n0 _ lt_1 h_1 4 136 (mkF m 43 #[.val (.ref q), .val (.int (2 : Int32)), .val (.ref a), .val (.ref a1)] [(.int (1 : Int32))])
  refine Wl.ifY C (pc' := 48) d6_43 (XT.i0_ne_t (by decide)) (by decide) (by decide) ?_
  refine Wl.st (g' := (mkF m 49 #[.val (.ref q), .val (.int (2 : Int32)), .val (.ref a), .val (.ref a1)] [(.int (1 : Int32))])) (fun X t q => XS.iconst X.here C.hx rfl (hb C.hby d6_48) q) ?_
  exact Wl.retV C (t := .boolean) rfl rfl (Or.inl ⟨rfl, by simp, _, rfl⟩) d6_49 (by decide) (by decide) ⟨rfl, EE_1, L_1⟩
theorem d56_0 : decode jdk_43_method_3_code 0 = .ok (.iload_n 0, 1) := by decide +kernel
theorem d56_1 : decode jdk_43_method_3_code 1 = .ok (.sipush 255, 3) := by decide +kernel
theorem d56_4 : decode jdk_43_method_3_code 4 = .ok (.if_icmp .gt 7, 3) := by decide +kernel
theorem d56_7 : decode jdk_43_method_3_code 7 = .ok (.iconst 1, 1) := by decide +kernel
theorem d56_8 : decode jdk_43_method_3_code 8 = .ok (.goto 4, 3) := by decide +kernel
theorem d56_12 : decode jdk_43_method_3_code 12 = .ok (.ireturn, 1) := by decide +kernel
set_option maxRecDepth 65536 in
set_option maxHeartbeats 40000000 in
theorem own_56_0 (l : Launch) (Z : State) (a0 : Array Value) (hw : ∀ d ∈ tables_1, d.before a0 Z = true) (n0 : Nat) (h0 : Heap) (hsz : n0 ≤ h0.size) (x0 : Int32) (x1 : Int32) (P0 : Sta Z h0 ST "COMPACT_STRINGS" "Z" (.int x1)) (lat_x0 : ¬ (255 : Int32) < x0) (nz_x1 : ¬ x1 = (0 : Int32)) :
    Met false l Z n0 (⟨"java/lang/StringLatin1", "canEncode", "(C)Z"⟩ : MethodName) jdk_43_method_3_code 1 (some .boolean) ({ frames := 0, cells := 0, slots := 0, locals := 0 } : Room) #[(.int x0)] h0 (fun v h => v = some (.int (1 : Int32)) ∧ h0 = h) := by
  refine Met.of (plainFor_of_name pn_8) #[.val (.int x0)] (fun m => by first | (simp [entryFrame, mkF, argsToLocals, Value.category]; done) | rfl) ?_
  intro p e s m below meth c C
  refine Wk.ild C d56_0 rfl ?_
  refine Wk.st (g' := (mkF m 4 #[.val (.int x0)] [(.int (255 : Int32)), (.int x0)])) (fun X t q => XS.sipush X.here C.hx rfl (hb C.hby d56_1) q) ?_
  refine Wk.icN C d56_4 (XT.ii_gt_f lat_x0) ?_
  refine Wk.st (g' := (mkF m 8 #[.val (.int x0)] [(.int (1 : Int32))])) (fun X t q => XS.iconst X.here C.hx rfl (hb C.hby d56_7) q) ?_
  refine Wk.gto C (pc' := 12) d56_8 (by decide) (by decide) ?_
  exact Wk.retV C (t := .boolean) rfl rfl (Or.inl ⟨rfl, by simp, _, rfl⟩) d56_12 (by decide) (by decide) ⟨rfl, rfl⟩
theorem d57_0 : decode jdk_43_method_46_code 0 = .ok (.iconst 1, 1) := by decide +kernel
theorem d57_1 : decode jdk_43_method_46_code 1 = .ok (.newarray .byte, 2) := by decide +kernel
theorem d57_3 : decode jdk_43_method_46_code 3 = .ok (.dup, 1) := by decide +kernel
theorem d57_4 : decode jdk_43_method_46_code 4 = .ok (.iconst 0, 1) := by decide +kernel
theorem d57_5 : decode jdk_43_method_46_code 5 = .ok (.iload_n 0, 1) := by decide +kernel
theorem d57_6 : decode jdk_43_method_46_code 6 = .ok (.i2b, 1) := by decide +kernel
theorem d57_7 : decode jdk_43_method_46_code 7 = .ok (.bastore, 1) := by decide +kernel
theorem d57_8 : decode jdk_43_method_46_code 8 = .ok (.areturn, 1) := by decide +kernel
set_option maxRecDepth 65536 in
set_option maxHeartbeats 40000000 in
theorem own_57_1 (l : Launch) (Z : State) (a0 : Array Value) (hw : ∀ d ∈ tables_1, d.before a0 Z = true) (n0 : Nat) (h0 : Heap) (hsz : n0 ≤ h0.size) (x0 : Int32) (x1 : Int32) (P0 : Sta Z h0 ST "COMPACT_STRINGS" "Z" (.int x1)) (lat_x0 : ¬ (255 : Int32) < x0) (nz_x1 : ¬ x1 = (0 : Int32)) :
    Met false l Z n0 (⟨"java/lang/StringLatin1", "toBytes", "(C)[B"⟩ : MethodName) jdk_43_method_46_code 1 (some (.array .byte)) ({ frames := 0, cells := 1, slots := 1, locals := 0 } : Room) #[(.int x0)] h0 (fun v h => ∃ b2 : Addr, v = some (.ref b2) ∧ Keep h0 h [] ∧ h0.size ≤ b2 ∧ Sta Z h ST "COMPACT_STRINGS" "Z" (.int x1) ∧ Exa Z h b2 "[B" ∧ Fa Z h b2 .byte 1 (up (fun _ => (.int (0 : Int32))) 0 (.int (nar .byte (x0.toInt8.toInt32))))) := by
  refine Met.of (plainFor_of_name pn_8) #[.val (.int x0)] (fun m => by first | (simp [entryFrame, mkF, argsToLocals, Value.category]; done) | rfl) ?_
  intro p e s m below meth c C
  refine Wk.st (g' := (mkF m 1 #[.val (.int x0)] [(.int (1 : Int32))])) (fun X t q => XS.iconst X.here C.hx rfl (hb C.hby d57_0) q) ?_
  refine Wk.fNewP C (wd hw 7) (ty := .byte) (dv := (.int (0 : Int32))) (N := 1) (ad := "[B") rfl rfl (by decide) (by decide) (by decide) (cap := 1) (by decide) (by decide) d57_1 (by decide) (by decide) ?_
  intro h1 b2 g3 E4 A5 F6
  have ge7 : n0 ≤ b2 := Nat.le_trans hsz (Nat.le_of_eq g3.symm)
  have gz8 : h0.size ≤ b2 := Nat.le_trans (Nat.le_refl h0.size) (Nat.le_of_eq g3.symm)
  have F9 : Sta Z h1 ST "COMPACT_STRINGS" "Z" (.int x1) := P0.ext E4
  have sz10 : n0 ≤ h1.size := Nat.le_trans hsz E4.1
  have sy11 : h0.size ≤ h1.size := Nat.le_trans (Nat.le_refl h0.size) E4.1
  have K12 := (Keep.refl h0 []).ext E4
  show Wk _ p l e _ s m _ below meth c n0 _ h1 1 1 (mkF m 3 #[.val (.int x0)] [(.ref b2)])
  refine Wk.dupS C d57_3 rfl ?_
  refine Wk.st (g' := (mkF m 5 #[.val (.int x0)] [(.int (0 : Int32)), (.ref b2), (.ref b2)])) (fun X t q => XS.iconst X.here C.hx rfl (hb C.hby d57_4) q) ?_
  refine Wk.ild C d57_5 rfl ?_
  refine Wk.st (g' := (mkF m 7 #[.val (.int x0)] [(.int (x0.toInt8.toInt32)), (.int (0 : Int32)), (.ref b2), (.ref b2)])) (fun X t q => XS.i2b X.here C.hx rfl (hb C.hby d57_6) rfl q) ?_
  refine Wk.fStB C F6 (x' := (nar .byte (x0.toInt8.toInt32))) rfl (i := 0) (by decide) (by decide) (by decide) ge7 d57_7 ?_
  intro h13 W14 F15
  have F16 : Sta Z h13 ST "COMPACT_STRINGS" "Z" (.int x1) := F9.wr W14
  have F17 : Exa Z h13 b2 "[B" := A5.wr W14
  have sz18 : n0 ≤ h13.size := Nat.le_trans sz10 (Nat.le_of_eq W14.size.symm)
  have sy19 : h0.size ≤ h13.size := Nat.le_trans sy11 (Nat.le_of_eq W14.size.symm)
  have K20 := K12.wr W14 (Or.inr gz8)
  show Wk _ p l e _ s m _ below meth c n0 _ h13 1 1 (mkF m 8 #[.val (.int x0)] [(.ref b2)])
  exact Wk.retV C (t := (.array .byte)) rfl rfl (Or.inr (Or.inr (Or.inr (Or.inr ⟨rfl, rfl, rfl⟩)))) d57_8 (by decide) (by decide) ⟨b2, rfl, K20, gz8, F16, F17, F15⟩
set_option maxRecDepth 65536 in
set_option maxHeartbeats 40000000 in
theorem own_58_2 (l : Launch) (Z : State) (a0 : Array Value) (hw : ∀ d ∈ tables_1, d.before a0 Z = true) (n0 : Nat) (h0 : Heap) (hsz : n0 ≤ h0.size) (o0 : Addr) (o1 : Addr) (x0 : Int32) (x1 : Int32) (P0 : Exa Z h0 o0 ST) (P1 : Fld Z h0 o0 ST "value" "[B" .null) (P2 : Fld Z h0 o0 ST "coder" "B" (.int (0 : Int32))) (P3 : Sta Z h0 ST "COMPACT_STRINGS" "Z" (.int x0)) (P4 : Exa Z h0 o1 "[B") (P5 : Fa Z h0 o1 .byte 1 (up (fun _ => (.int (0 : Int32))) 0 (.int x1))) (N_o0_o1 : o0 ≠ o1) (G_o0 : n0 ≤ o0) (G_o1 : n0 ≤ o1) (nz_x0 : ¬ x0 = (0 : Int32)) :
    Met false l Z n0 (⟨ST, "<init>", "([BB)V"⟩ : MethodName) jdk_42_method_151_code 3 none ({ frames := 1, cells := 0, slots := 0, locals := 12 } : Room) #[(.ref o0), (.ref o1), (.int (0 : Int32))] h0 (fun v h => v = none ∧ Keep h0 h [o0] ∧ Sta Z h ST "COMPACT_STRINGS" "Z" (.int x0) ∧ Fld Z h o0 ST "value" "[B" (.ref o1) ∧ Fld Z h o0 ST "coder" "B" (.int (0 : Int32))) := by
  refine Met.of (plainFor_of_name pn_0) #[.val (.ref o0), .val (.ref o1), .val (.int (0 : Int32))] (fun m => by first | (simp [entryFrame, mkF, argsToLocals, Value.category]; done) | rfl) ?_
  intro p e s m below meth c C
  refine Wk.ald C d58_0 rfl rfl ?_
  refine Wk.initO C (wd hw 65) (wd hw 19) (wd hw 20) (w := 0) rfl d58_1 (by decide) (Nat.le_of_eq rfl) (by decide) ?_
  show Wk _ p l e _ s m _ below meth c n0 _ h0 0 0 (mkF m 4 #[.val (.ref o0), .val (.ref o1), .val (.int (0 : Int32))] [])
  refine Wk.ald C d58_4 rfl rfl ?_
  refine Wk.ald C d58_5 rfl rfl ?_
  refine Wk.putF C (wd hw 78) Via.refl P1 P0 (Or.inr ⟨(wd hw 8), rfl, rfl⟩) (wd hw 6) (ty := (.array .byte)) (by decide) (v' := (.ref o1)) rfl rfl G_o0 d58_6 ?_
  intro h1 W2
  have F3 : Fld Z h1 o0 ST "value" "[B" (.ref o1) := P1.same W2
  have F4 : Exa Z h1 o0 ST := P0.wr W2
  have F5 : Fld Z h1 o0 ST "coder" "B" (.int (0 : Int32)) := P2.other W2 (Or.inr (slot_ne (Or.inr (wd hw 9)) (Or.inr (wd hw 8)) (by decide) (t := .byte) (t' := (.array .byte)) (by decide) (by decide)))
  have F6 : Sta Z h1 ST "COMPACT_STRINGS" "Z" (.int x0) := P3.wr W2
  have F7 : Exa Z h1 o1 "[B" := P4.wr W2
  have F8 : Fa Z h1 o1 .byte 1 (up (fun _ => (.int (0 : Int32))) 0 (.int x1)) := P5.other W2 (Ne.symm N_o0_o1)
  have sz9 : n0 ≤ h1.size := Nat.le_trans hsz (Nat.le_of_eq W2.size.symm)
  have sy10 : h0.size ≤ h1.size := Nat.le_trans (Nat.le_refl h0.size) (Nat.le_of_eq W2.size.symm)
  have K11 := (Keep.refl h0 [o0]).wr W2 (Or.inl (by simp))
  show Wk _ p l e _ s m _ below meth c n0 _ h1 0 0 (mkF m 9 #[.val (.ref o0), .val (.ref o1), .val (.int (0 : Int32))] [])
  refine Wk.ald C d58_9 rfl rfl ?_
  refine Wk.ild C d58_10 rfl ?_
  refine Wk.putF C (wd hw 77) Via.refl F5 F4 (Or.inr ⟨(wd hw 9), rfl, rfl⟩) (wd hw 6) (ty := .byte) (by decide) (v' := (.int (0 : Int32))) rfl (by decide) G_o0 d58_11 ?_
  intro h12 W13
  have F14 : Fld Z h12 o0 ST "coder" "B" (.int (0 : Int32)) := F5.same W13
  have F15 : Exa Z h12 o0 ST := F4.wr W13
  have F16 : Sta Z h12 ST "COMPACT_STRINGS" "Z" (.int x0) := F6.wr W13
  have F17 : Exa Z h12 o1 "[B" := F7.wr W13
  have F18 : Fa Z h12 o1 .byte 1 (up (fun _ => (.int (0 : Int32))) 0 (.int x1)) := F8.other W13 (Ne.symm N_o0_o1)
  have F19 : Fld Z h12 o0 ST "value" "[B" (.ref o1) := F3.other W13 (Or.inr (slot_ne (Or.inr (wd hw 8)) (Or.inr (wd hw 9)) (by decide) (t := (.array .byte)) (t' := .byte) (by decide) (by decide)))
  have sz20 : n0 ≤ h12.size := Nat.le_trans sz9 (Nat.le_of_eq W13.size.symm)
  have sy21 : h0.size ≤ h12.size := Nat.le_trans sy10 (Nat.le_of_eq W13.size.symm)
  have K22 := K11.wr W13 (Or.inl (by simp))
  show Wk _ p l e _ s m _ below meth c n0 _ h12 0 0 (mkF m 14 #[.val (.ref o0), .val (.ref o1), .val (.int (0 : Int32))] [])
  exact Wk.retN0 C rfl d58_14 (by decide) (by decide) ⟨rfl, K22, F16, F19, F14⟩
theorem d55_0 : decode jdk_42_method_139_code 0 = .ok (.getstatic 38, 3) := by decide +kernel
theorem d55_3 : decode jdk_42_method_139_code 3 = .ok (.ifCond .eq 23, 3) := by decide +kernel
theorem d55_6 : decode jdk_42_method_139_code 6 = .ok (.iload_n 0, 1) := by decide +kernel
theorem d55_7 : decode jdk_42_method_139_code 7 = .ok (.invokestatic 1015, 3) := by decide +kernel
theorem d55_10 : decode jdk_42_method_139_code 10 = .ok (.ifCond .eq 16, 3) := by decide +kernel
theorem d55_13 : decode jdk_42_method_139_code 13 = .ok (.new 10, 3) := by decide +kernel
theorem d55_16 : decode jdk_42_method_139_code 16 = .ok (.dup, 1) := by decide +kernel
theorem d55_17 : decode jdk_42_method_139_code 17 = .ok (.iload_n 0, 1) := by decide +kernel
theorem d55_18 : decode jdk_42_method_139_code 18 = .ok (.invokestatic 1018, 3) := by decide +kernel
theorem d55_21 : decode jdk_42_method_139_code 21 = .ok (.iconst 0, 1) := by decide +kernel
theorem d55_22 : decode jdk_42_method_139_code 22 = .ok (.invokespecial 209, 3) := by decide +kernel
theorem d55_25 : decode jdk_42_method_139_code 25 = .ok (.areturn, 1) := by decide +kernel
set_option maxRecDepth 65536 in
set_option maxHeartbeats 40000000 in
theorem own_55_0 (l : Launch) (Z : State) (a0 : Array Value) (hw : ∀ d ∈ tables_1, d.before a0 Z = true) (n0 : Nat) (h0 : Heap) (hsz : n0 ≤ h0.size) (x0 : Int32) (x1 : Int32) (P0 : Sta Z h0 ST "COMPACT_STRINGS" "Z" (.int x1)) (lat_x0 : ¬ (255 : Int32) < x0) (nz_x1 : ¬ x1 = (0 : Int32)) :
    Met false l Z n0 (⟨ST, "valueOf", "(C)Ljava/lang/String;"⟩ : MethodName) jdk_42_method_139_code 1 (some (.object ST)) ({ frames := 2, cells := 2, slots := 5, locals := 27 } : Room) #[(.int x0)] h0 (fun v h => ∃ b5 : Addr, ∃ n18_b2 : Addr, v = some (.ref b5) ∧ Keep h0 h [] ∧ h0.size ≤ b5 ∧ h0.size ≤ n18_b2 ∧ b5 ≠ n18_b2 ∧ Exa Z h b5 ST ∧ Exa Z h n18_b2 "[B" ∧ Fa Z h n18_b2 .byte 1 (up (fun _ => (.int (0 : Int32))) 0 (.int (nar .byte (x0.toInt8.toInt32)))) ∧ Sta Z h ST "COMPACT_STRINGS" "Z" (.int x1) ∧ Fld Z h b5 ST "value" "[B" (.ref n18_b2) ∧ Fld Z h b5 ST "coder" "B" (.int (0 : Int32))) := by
  refine Met.of (plainFor_of_name pn_0) #[.val (.int x0)] (fun m => by first | (simp [entryFrame, mkF, argsToLocals, Value.category]; done) | rfl) ?_
  intro p e s m below meth c C
  refine Wk.getS C (wd hw 66) P0 d55_0 ?_
  show Wk _ p l e _ s m _ below meth c n0 _ h0 0 0 (mkF m 3 #[.val (.int x0)] [(.int x1)])
  refine Wk.ifN C d55_3 (XT.i0_eq_f nz_x1) ?_
  refine Wk.ild C d55_6 rfl ?_
  refine Wk.callS C (z := (⟨"java/lang/StringLatin1", "canEncode", "(C)Z"⟩ : MethodName)) (wd hw 308) (wd hw 309) (wd hw 294) (wd hw 310) (by decide) (own_56_0 l Z a0 hw n0 h0 hsz  x0 x1 P0   lat_x0 nz_x1) (w := 0) (by decide) (by decide) pd_33 rfl (rest := []) rfl rfl (Nat.le_of_eq rfl) (by decide) (by decide) d55_7 ?_
  rintro _ _ ⟨rfl, rfl⟩
  show Wk _ p l e _ s m _ below meth c n0 _ h0 0 0 (mkF m 10 #[.val (.int x0)] [(.int (1 : Int32))])
  refine Wk.ifN C d55_10 (XT.i0_eq_f (by decide)) ?_
  refine Wk.newO C (wd hw 291) (wd hw 6) (wd hw 5) d55_13 (by decide) (by decide) ?_
  intro h4 b5 g6 E7 A8 D9
  have ge10 : n0 ≤ b5 := Nat.le_trans hsz (Nat.le_of_eq g6.symm)
  have gz11 : h0.size ≤ b5 := Nat.le_trans (Nat.le_refl h0.size) (Nat.le_of_eq g6.symm)
  have F12 : Sta Z h4 ST "COMPACT_STRINGS" "Z" (.int x1) := P0.ext E7
  have sz13 : n0 ≤ h4.size := Nat.le_trans hsz E7.1
  have sy14 : h0.size ≤ h4.size := Nat.le_trans (Nat.le_refl h0.size) E7.1
  have K15 := (Keep.refl h0 []).ext E7
  have F16 : Fld Z h4 b5 ST "value" "[B" .null := D9 (Or.inr (wd hw 8)) (ty := (.array .byte)) (by decide)
  have F17 : Fld Z h4 b5 ST "coder" "B" (.int (0 : Int32)) := D9 (Or.inr (wd hw 9)) (ty := .byte) (by decide)
  show Wk _ p l e _ s m _ below meth c n0 _ h4 1 4 (mkF m 16 #[.val (.int x0)] [(.ref b5)])
  refine Wk.dupS C d55_16 rfl ?_
  refine Wk.ild C d55_17 rfl ?_
  refine Wk.callS C (z := (⟨"java/lang/StringLatin1", "toBytes", "(C)[B"⟩ : MethodName)) (wd hw 311) (wd hw 312) (wd hw 294) (wd hw 313) (by decide) (own_57_1 l Z a0 hw n0 h4 sz13  x0 x1 F12   lat_x0 nz_x1) (w := 2) (by decide) (by decide) pd_34 rfl (rest := [(.ref b5), (.ref b5)]) rfl rfl (Nat.le_of_eq rfl) (by decide) (by decide) d55_18 ?_
  rintro _ h19 ⟨n18_b2, rfl, K20, gn24, F21, F22, F23⟩
  show Wk _ p l e _ s m _ below meth c n0 _ h19 2 5 (mkF m 21 #[.val (.int x0)] [(.ref n18_b2), (.ref b5), (.ref b5)])
  have ne25 : b5 ≠ n18_b2 := Nat.ne_of_lt (Nat.lt_of_lt_of_le A8.lt gn24)
  have ge26 : n0 ≤ n18_b2 := Nat.le_trans sz13 gn24
  have gz27 : h0.size ≤ n18_b2 := Nat.le_trans sy14 gn24
  have F28 : Exa Z h19 b5 ST := A8.keep K20
  have F29 : Fld Z h19 b5 ST "value" "[B" .null := F16.keep K20 nm0
  have F30 : Fld Z h19 b5 ST "coder" "B" (.int (0 : Int32)) := F17.keep K20 nm0
  have sz31 : n0 ≤ h19.size := Nat.le_trans sz13 K20.1
  have K32 := K15.trans K20 nv0
  have sy33 : h0.size ≤ h19.size := Nat.le_trans sy14 K20.1
  refine Wk.st (g' := (mkF m 22 #[.val (.int x0)] [(.int (0 : Int32)), (.ref n18_b2), (.ref b5), (.ref b5)])) (fun X t q => XS.iconst X.here C.hx rfl (hb C.hby d55_21) q) ?_
  refine Wk.callI C (z := (⟨ST, "<init>", "([BB)V"⟩ : MethodName)) rfl (wd hw 314) (wd hw 315) (wd hw 5) (wd hw 316) (by decide) (own_58_2 l Z a0 hw n0 h19 sz31 b5 n18_b2 x1 (nar .byte (x0.toInt8.toInt32)) F28 F29 F30 F21 F22 F23 ne25 ge10 ge26 nz_x1) (w := 1) (by decide) (by decide) pd_26 rfl (rest := [(.ref b5)]) rfl rfl (Nat.le_of_eq rfl) (by decide) (by decide) d55_22 ?_
  rintro _ h35 ⟨rfl, K36, F37, F38, F39⟩
  show Wk _ p l e _ s m _ below meth c n0 _ h35 2 5 (mkF m 25 #[.val (.int x0)] [(.ref b5)])
  have F40 : Exa Z h35 b5 ST := F28.keep K36
  have F41 : Exa Z h35 n18_b2 "[B" := F22.keep K36
  have F42 : Fa Z h35 n18_b2 .byte 1 (up (fun _ => (.int (0 : Int32))) 0 (.int (nar .byte (x0.toInt8.toInt32)))) := F23.keep K36 (nmS (Ne.symm ne25) nm0)
  have sz43 : n0 ≤ h35.size := Nat.le_trans sz31 K36.1
  have K44 := K32.trans K36 (nvS (Or.inr gz11) nv0)
  have sy45 : h0.size ≤ h35.size := Nat.le_trans sy33 K36.1
  exact Wk.retV C (t := (.object ST)) rfl rfl (Or.inr (Or.inr (Or.inr (Or.inr ⟨rfl, rfl, rfl⟩)))) d55_25 (by decide) (by decide) ⟨b5, n18_b2, rfl, K44, gz11, gz27, ne25, F40, F41, F42, F37, F38, F39⟩
theorem d1_0 : decode method_4_code 0 = .ok (.iload_n 1, 1) := by decide +kernel
theorem d1_1 : decode method_4_code 1 = .ok (.sipush 255, 3) := by decide +kernel
theorem d1_4 : decode method_4_code 4 = .ok (.iand, 1) := by decide +kernel
theorem d1_5 : decode method_4_code 5 = .ok (.i2c, 1) := by decide +kernel
theorem d1_6 : decode method_4_code 6 = .ok (.istore_n 2, 1) := by decide +kernel
theorem d1_7 : decode method_4_code 7 = .ok (.iload_n 1, 1) := by decide +kernel
theorem d1_8 : decode method_4_code 8 = .ok (.bipush 8, 2) := by decide +kernel
theorem d1_10 : decode method_4_code 10 = .ok (.iushr, 1) := by decide +kernel
theorem d1_11 : decode method_4_code 11 = .ok (.sipush 255, 3) := by decide +kernel
theorem d1_14 : decode method_4_code 14 = .ok (.iand, 1) := by decide +kernel
theorem d1_15 : decode method_4_code 15 = .ok (.i2c, 1) := by decide +kernel
theorem d1_16 : decode method_4_code 16 = .ok (.istore_n 3, 1) := by decide +kernel
theorem d1_17 : decode method_4_code 17 = .ok (.iload_n 1, 1) := by decide +kernel
theorem d1_18 : decode method_4_code 18 = .ok (.bipush 16, 2) := by decide +kernel
theorem d1_20 : decode method_4_code 20 = .ok (.iushr, 1) := by decide +kernel
theorem d1_21 : decode method_4_code 21 = .ok (.sipush 255, 3) := by decide +kernel
theorem d1_24 : decode method_4_code 24 = .ok (.iand, 1) := by decide +kernel
theorem d1_25 : decode method_4_code 25 = .ok (.i2c, 1) := by decide +kernel
theorem d1_26 : decode method_4_code 26 = .ok (.istore 4, 2) := by decide +kernel
theorem d1_28 : decode method_4_code 28 = .ok (.iload_n 0, 1) := by decide +kernel
theorem d1_29 : decode method_4_code 29 = .ok (.ifCond .ne 6, 3) := by decide +kernel
theorem d1_32 : decode method_4_code 32 = .ok (.ldc 49, 2) := by decide +kernel
theorem d1_34 : decode method_4_code 34 = .ok (.areturn, 1) := by decide +kernel
theorem d1_35 : decode method_4_code 35 = .ok (.iload_n 0, 1) := by decide +kernel
theorem d1_36 : decode method_4_code 36 = .ok (.iconst 1, 1) := by decide +kernel
theorem d1_37 : decode method_4_code 37 = .ok (.if_icmp .ne 8, 3) := by decide +kernel
theorem d1_40 : decode method_4_code 40 = .ok (.iload_n 2, 1) := by decide +kernel
theorem d1_41 : decode method_4_code 41 = .ok (.invokestatic 51, 3) := by decide +kernel
theorem d1_44 : decode method_4_code 44 = .ok (.areturn, 1) := by decide +kernel
theorem d1_45 : decode method_4_code 45 = .ok (.iload_n 0, 1) := by decide +kernel
theorem d1_46 : decode method_4_code 46 = .ok (.iconst 2, 1) := by decide +kernel
theorem d1_47 : decode method_4_code 47 = .ok (.if_icmp .ne 22, 3) := by decide +kernel
theorem d1_50 : decode method_4_code 50 = .ok (.new 44, 3) := by decide +kernel
theorem d1_53 : decode method_4_code 53 = .ok (.dup, 1) := by decide +kernel
theorem d1_54 : decode method_4_code 54 = .ok (.iconst 2, 1) := by decide +kernel
theorem d1_55 : decode method_4_code 55 = .ok (.newarray .char, 2) := by decide +kernel
theorem d1_57 : decode method_4_code 57 = .ok (.dup, 1) := by decide +kernel
theorem d1_58 : decode method_4_code 58 = .ok (.iconst 0, 1) := by decide +kernel
theorem d1_59 : decode method_4_code 59 = .ok (.iload_n 2, 1) := by decide +kernel
theorem d1_60 : decode method_4_code 60 = .ok (.castore, 1) := by decide +kernel
theorem d1_61 : decode method_4_code 61 = .ok (.dup, 1) := by decide +kernel
theorem d1_62 : decode method_4_code 62 = .ok (.iconst 1, 1) := by decide +kernel
theorem d1_63 : decode method_4_code 63 = .ok (.iload_n 3, 1) := by decide +kernel
theorem d1_64 : decode method_4_code 64 = .ok (.castore, 1) := by decide +kernel
theorem d1_65 : decode method_4_code 65 = .ok (.invokespecial 55, 3) := by decide +kernel
theorem d1_68 : decode method_4_code 68 = .ok (.areturn, 1) := by decide +kernel
theorem d1_69 : decode method_4_code 69 = .ok (.new 44, 3) := by decide +kernel
theorem d1_72 : decode method_4_code 72 = .ok (.dup, 1) := by decide +kernel
theorem d1_73 : decode method_4_code 73 = .ok (.iconst 3, 1) := by decide +kernel
theorem d1_74 : decode method_4_code 74 = .ok (.newarray .char, 2) := by decide +kernel
theorem d1_76 : decode method_4_code 76 = .ok (.dup, 1) := by decide +kernel
theorem d1_77 : decode method_4_code 77 = .ok (.iconst 0, 1) := by decide +kernel
theorem d1_78 : decode method_4_code 78 = .ok (.iload_n 2, 1) := by decide +kernel
theorem d1_79 : decode method_4_code 79 = .ok (.castore, 1) := by decide +kernel
theorem d1_80 : decode method_4_code 80 = .ok (.dup, 1) := by decide +kernel
theorem d1_81 : decode method_4_code 81 = .ok (.iconst 1, 1) := by decide +kernel
theorem d1_82 : decode method_4_code 82 = .ok (.iload_n 3, 1) := by decide +kernel
theorem d1_83 : decode method_4_code 83 = .ok (.castore, 1) := by decide +kernel
theorem d1_84 : decode method_4_code 84 = .ok (.dup, 1) := by decide +kernel
theorem d1_85 : decode method_4_code 85 = .ok (.iconst 2, 1) := by decide +kernel
theorem d1_86 : decode method_4_code 86 = .ok (.iload 4, 2) := by decide +kernel
theorem d1_88 : decode method_4_code 88 = .ok (.castore, 1) := by decide +kernel
theorem d1_89 : decode method_4_code 89 = .ok (.invokespecial 55, 3) := by decide +kernel
theorem d1_92 : decode method_4_code 92 = .ok (.areturn, 1) := by decide +kernel
set_option maxRecDepth 65536 in
set_option maxHeartbeats 40000000 in
theorem own_1_0 (l : Launch) (Z : State) (a0 : Array Value) (hw : ∀ d ∈ tables_1, d.before a0 Z = true) (n0 : Nat) (h0 : Heap) (hsz : n0 ≤ h0.size) (x0 : Int32) (x1 : Int32) (P0 : Sta Z h0 ST "COMPACT_STRINGS" "Z" (.int x1)) (nz_x1 : ¬ x1 = (0 : Int32)) :
    Met false l Z n0 (⟨"com/example/amendatory/amendatory/BuilderClearPinLaw", "para", "(II)Ljava/lang/String;"⟩ : MethodName) method_4_code 5 (some (.object ST)) ({ frames := 4, cells := 3, slots := 10, locals := 66 } : Room) #[(.int (1 : Int32)), (.int x0)] h0 (fun v h => ∃ n1_b5 : Addr, ∃ n1_n18_b2 : Addr, v = some (.ref n1_b5) ∧ Keep h0 h [] ∧ h0.size ≤ n1_b5 ∧ h0.size ≤ n1_n18_b2 ∧ n1_b5 ≠ n1_n18_b2 ∧ Exa Z h n1_b5 ST ∧ Exa Z h n1_n18_b2 "[B" ∧ Fa Z h n1_n18_b2 .byte 1 (up (fun _ => (.int (0 : Int32))) 0 (.int (nar .byte (((x0 &&& (255 : Int32)).toUInt32.toUInt16.toUInt32.toInt32).toInt8.toInt32)))) ∧ Sta Z h ST "COMPACT_STRINGS" "Z" (.int x1) ∧ Fld Z h n1_b5 ST "value" "[B" (.ref n1_n18_b2) ∧ Fld Z h n1_b5 ST "coder" "B" (.int (0 : Int32))) := by
  refine Met.of (plainFor_of_name pn_10) #[.val (.int (1 : Int32)), .val (.int x0), .unset, .unset, .unset] (fun m => by first | (simp [entryFrame, mkF, argsToLocals, Value.category]; done) | rfl) ?_
  intro p e s m below meth c C
  refine Wk.ild C d1_0 rfl ?_
  refine Wk.st (g' := (mkF m 4 #[.val (.int (1 : Int32)), .val (.int x0), .unset, .unset, .unset] [(.int (255 : Int32)), (.int x0)])) (fun X t q => XS.sipush X.here C.hx rfl (hb C.hby d1_1) q) ?_
  refine Wk.st (g' := (mkF m 5 #[.val (.int (1 : Int32)), .val (.int x0), .unset, .unset, .unset] [(.int (x0 &&& (255 : Int32)))])) (fun X t q => XS.iand X.here C.hx rfl (hb C.hby d1_4) rfl q) ?_
  refine Wk.st (g' := (mkF m 6 #[.val (.int (1 : Int32)), .val (.int x0), .unset, .unset, .unset] [(.int ((x0 &&& (255 : Int32)).toUInt32.toUInt16.toUInt32.toInt32))])) (fun X t q => XS.i2c X.here C.hx rfl (hb C.hby d1_5) rfl q) ?_
  refine Wk.st (g' := (mkF m 7 #[.val (.int (1 : Int32)), .val (.int x0), .val (.int ((x0 &&& (255 : Int32)).toUInt32.toUInt16.toUInt32.toInt32)), .unset, .unset] [])) (fun X t q => XS.istoreN X.here C.hx rfl (hb C.hby d1_6) rfl (l' := #[.val (.int (1 : Int32)), .val (.int x0), .val (.int ((x0 &&& (255 : Int32)).toUInt32.toUInt16.toUInt32.toInt32)), .unset, .unset]) rfl q) ?_
  refine Wk.ild C d1_7 rfl ?_
  refine Wk.st (g' := (mkF m 10 #[.val (.int (1 : Int32)), .val (.int x0), .val (.int ((x0 &&& (255 : Int32)).toUInt32.toUInt16.toUInt32.toInt32)), .unset, .unset] [(.int (8 : Int32)), (.int x0)])) (fun X t q => XS.bipush X.here C.hx rfl (hb C.hby d1_8) q) ?_
  refine Wk.st (g' := (mkF m 11 #[.val (.int (1 : Int32)), .val (.int x0), .val (.int ((x0 &&& (255 : Int32)).toUInt32.toUInt16.toUInt32.toInt32)), .unset, .unset] [(.int ((x0.toUInt32 >>> ((8 : Int32) &&& 31).toUInt32).toInt32))])) (fun X t q => XS.iushr X.here C.hx rfl (hb C.hby d1_10) rfl q) ?_
  refine Wk.st (g' := (mkF m 14 #[.val (.int (1 : Int32)), .val (.int x0), .val (.int ((x0 &&& (255 : Int32)).toUInt32.toUInt16.toUInt32.toInt32)), .unset, .unset] [(.int (255 : Int32)), (.int ((x0.toUInt32 >>> ((8 : Int32) &&& 31).toUInt32).toInt32))])) (fun X t q => XS.sipush X.here C.hx rfl (hb C.hby d1_11) q) ?_
  refine Wk.st (g' := (mkF m 15 #[.val (.int (1 : Int32)), .val (.int x0), .val (.int ((x0 &&& (255 : Int32)).toUInt32.toUInt16.toUInt32.toInt32)), .unset, .unset] [(.int (((x0.toUInt32 >>> ((8 : Int32) &&& 31).toUInt32).toInt32) &&& (255 : Int32)))])) (fun X t q => XS.iand X.here C.hx rfl (hb C.hby d1_14) rfl q) ?_
  refine Wk.st (g' := (mkF m 16 #[.val (.int (1 : Int32)), .val (.int x0), .val (.int ((x0 &&& (255 : Int32)).toUInt32.toUInt16.toUInt32.toInt32)), .unset, .unset] [(.int ((((x0.toUInt32 >>> ((8 : Int32) &&& 31).toUInt32).toInt32) &&& (255 : Int32)).toUInt32.toUInt16.toUInt32.toInt32))])) (fun X t q => XS.i2c X.here C.hx rfl (hb C.hby d1_15) rfl q) ?_
  refine Wk.st (g' := (mkF m 17 #[.val (.int (1 : Int32)), .val (.int x0), .val (.int ((x0 &&& (255 : Int32)).toUInt32.toUInt16.toUInt32.toInt32)), .val (.int ((((x0.toUInt32 >>> ((8 : Int32) &&& 31).toUInt32).toInt32) &&& (255 : Int32)).toUInt32.toUInt16.toUInt32.toInt32)), .unset] [])) (fun X t q => XS.istoreN X.here C.hx rfl (hb C.hby d1_16) rfl (l' := #[.val (.int (1 : Int32)), .val (.int x0), .val (.int ((x0 &&& (255 : Int32)).toUInt32.toUInt16.toUInt32.toInt32)), .val (.int ((((x0.toUInt32 >>> ((8 : Int32) &&& 31).toUInt32).toInt32) &&& (255 : Int32)).toUInt32.toUInt16.toUInt32.toInt32)), .unset]) rfl q) ?_
  refine Wk.ild C d1_17 rfl ?_
  refine Wk.st (g' := (mkF m 20 #[.val (.int (1 : Int32)), .val (.int x0), .val (.int ((x0 &&& (255 : Int32)).toUInt32.toUInt16.toUInt32.toInt32)), .val (.int ((((x0.toUInt32 >>> ((8 : Int32) &&& 31).toUInt32).toInt32) &&& (255 : Int32)).toUInt32.toUInt16.toUInt32.toInt32)), .unset] [(.int (16 : Int32)), (.int x0)])) (fun X t q => XS.bipush X.here C.hx rfl (hb C.hby d1_18) q) ?_
  refine Wk.st (g' := (mkF m 21 #[.val (.int (1 : Int32)), .val (.int x0), .val (.int ((x0 &&& (255 : Int32)).toUInt32.toUInt16.toUInt32.toInt32)), .val (.int ((((x0.toUInt32 >>> ((8 : Int32) &&& 31).toUInt32).toInt32) &&& (255 : Int32)).toUInt32.toUInt16.toUInt32.toInt32)), .unset] [(.int ((x0.toUInt32 >>> ((16 : Int32) &&& 31).toUInt32).toInt32))])) (fun X t q => XS.iushr X.here C.hx rfl (hb C.hby d1_20) rfl q) ?_
  refine Wk.st (g' := (mkF m 24 #[.val (.int (1 : Int32)), .val (.int x0), .val (.int ((x0 &&& (255 : Int32)).toUInt32.toUInt16.toUInt32.toInt32)), .val (.int ((((x0.toUInt32 >>> ((8 : Int32) &&& 31).toUInt32).toInt32) &&& (255 : Int32)).toUInt32.toUInt16.toUInt32.toInt32)), .unset] [(.int (255 : Int32)), (.int ((x0.toUInt32 >>> ((16 : Int32) &&& 31).toUInt32).toInt32))])) (fun X t q => XS.sipush X.here C.hx rfl (hb C.hby d1_21) q) ?_
  refine Wk.st (g' := (mkF m 25 #[.val (.int (1 : Int32)), .val (.int x0), .val (.int ((x0 &&& (255 : Int32)).toUInt32.toUInt16.toUInt32.toInt32)), .val (.int ((((x0.toUInt32 >>> ((8 : Int32) &&& 31).toUInt32).toInt32) &&& (255 : Int32)).toUInt32.toUInt16.toUInt32.toInt32)), .unset] [(.int (((x0.toUInt32 >>> ((16 : Int32) &&& 31).toUInt32).toInt32) &&& (255 : Int32)))])) (fun X t q => XS.iand X.here C.hx rfl (hb C.hby d1_24) rfl q) ?_
  refine Wk.st (g' := (mkF m 26 #[.val (.int (1 : Int32)), .val (.int x0), .val (.int ((x0 &&& (255 : Int32)).toUInt32.toUInt16.toUInt32.toInt32)), .val (.int ((((x0.toUInt32 >>> ((8 : Int32) &&& 31).toUInt32).toInt32) &&& (255 : Int32)).toUInt32.toUInt16.toUInt32.toInt32)), .unset] [(.int ((((x0.toUInt32 >>> ((16 : Int32) &&& 31).toUInt32).toInt32) &&& (255 : Int32)).toUInt32.toUInt16.toUInt32.toInt32))])) (fun X t q => XS.i2c X.here C.hx rfl (hb C.hby d1_25) rfl q) ?_
  refine Wk.st (g' := (mkF m 28 #[.val (.int (1 : Int32)), .val (.int x0), .val (.int ((x0 &&& (255 : Int32)).toUInt32.toUInt16.toUInt32.toInt32)), .val (.int ((((x0.toUInt32 >>> ((8 : Int32) &&& 31).toUInt32).toInt32) &&& (255 : Int32)).toUInt32.toUInt16.toUInt32.toInt32)), .val (.int ((((x0.toUInt32 >>> ((16 : Int32) &&& 31).toUInt32).toInt32) &&& (255 : Int32)).toUInt32.toUInt16.toUInt32.toInt32))] [])) (fun X t q => XS.istore X.here C.hx rfl (hb C.hby d1_26) rfl (l' := #[.val (.int (1 : Int32)), .val (.int x0), .val (.int ((x0 &&& (255 : Int32)).toUInt32.toUInt16.toUInt32.toInt32)), .val (.int ((((x0.toUInt32 >>> ((8 : Int32) &&& 31).toUInt32).toInt32) &&& (255 : Int32)).toUInt32.toUInt16.toUInt32.toInt32)), .val (.int ((((x0.toUInt32 >>> ((16 : Int32) &&& 31).toUInt32).toInt32) &&& (255 : Int32)).toUInt32.toUInt16.toUInt32.toInt32))]) rfl q) ?_
  refine Wk.ild C d1_28 rfl ?_
  refine Wk.ifY C (pc' := 35) d1_29 (XT.i0_ne_t (by decide)) (by decide) (by decide) ?_
  refine Wk.ild C d1_35 rfl ?_
  refine Wk.st (g' := (mkF m 37 #[.val (.int (1 : Int32)), .val (.int x0), .val (.int ((x0 &&& (255 : Int32)).toUInt32.toUInt16.toUInt32.toInt32)), .val (.int ((((x0.toUInt32 >>> ((8 : Int32) &&& 31).toUInt32).toInt32) &&& (255 : Int32)).toUInt32.toUInt16.toUInt32.toInt32)), .val (.int ((((x0.toUInt32 >>> ((16 : Int32) &&& 31).toUInt32).toInt32) &&& (255 : Int32)).toUInt32.toUInt16.toUInt32.toInt32))] [(.int (1 : Int32)), (.int (1 : Int32))])) (fun X t q => XS.iconst X.here C.hx rfl (hb C.hby d1_36) q) ?_
  refine Wk.icN C d1_37 (XT.ii_ne_f (by decide)) ?_
  refine Wk.ild C d1_40 rfl ?_
  refine Wk.callS C (z := (⟨ST, "valueOf", "(C)Ljava/lang/String;"⟩ : MethodName)) (wd hw 305) (wd hw 306) (wd hw 5) (wd hw 307) (by decide) (own_55_0 l Z a0 hw n0 h0 hsz  ((x0 &&& (255 : Int32)).toUInt32.toUInt16.toUInt32.toInt32) x1 P0   (lat0 x0) nz_x1) (w := 0) (by decide) (by decide) pd_32 rfl (rest := []) rfl rfl (Nat.le_of_eq rfl) (by decide) (by decide) d1_41 ?_
  rintro _ h2 ⟨n1_b5, n1_n18_b2, rfl, K3, gn10, gn11, ne12, F4, F5, F6, F7, F8, F9⟩
  show Wk _ p l e _ s m _ below meth c n0 _ h2 2 5 (mkF m 44 #[.val (.int (1 : Int32)), .val (.int x0), .val (.int ((x0 &&& (255 : Int32)).toUInt32.toUInt16.toUInt32.toInt32)), .val (.int ((((x0.toUInt32 >>> ((8 : Int32) &&& 31).toUInt32).toInt32) &&& (255 : Int32)).toUInt32.toUInt16.toUInt32.toInt32)), .val (.int ((((x0.toUInt32 >>> ((16 : Int32) &&& 31).toUInt32).toInt32) &&& (255 : Int32)).toUInt32.toUInt16.toUInt32.toInt32))] [(.ref n1_b5)])
  have ge13 : n0 ≤ n1_b5 := Nat.le_trans hsz gn10
  have gz14 : h0.size ≤ n1_b5 := Nat.le_trans (Nat.le_refl h0.size) gn10
  have ge15 : n0 ≤ n1_n18_b2 := Nat.le_trans hsz gn11
  have gz16 : h0.size ≤ n1_n18_b2 := Nat.le_trans (Nat.le_refl h0.size) gn11
  have sz17 : n0 ≤ h2.size := Nat.le_trans hsz K3.1
  have K18 := (Keep.refl h0 []).trans K3 nv0
  have sy19 : h0.size ≤ h2.size := Nat.le_trans (Nat.le_refl h0.size) K3.1
  exact Wk.retV C (t := (.object ST)) rfl rfl (Or.inr (Or.inr (Or.inr (Or.inr ⟨rfl, rfl, rfl⟩)))) d1_44 (by decide) (by decide) ⟨n1_b5, n1_n18_b2, rfl, K18, gz14, gz16, ne12, F4, F5, F6, F7, F8, F9⟩
theorem d11_0 : decode jdk_52_method_21_code 0 = .ok (.iconst 0, 1) := by decide +kernel
theorem d11_1 : decode jdk_52_method_21_code 1 = .ok (.istore 5, 2) := by decide +kernel
theorem d11_3 : decode jdk_52_method_21_code 3 = .ok (.iload 5, 2) := by decide +kernel
theorem d11_5 : decode jdk_52_method_21_code 5 = .ok (.iload 4, 2) := by decide +kernel
theorem d11_7 : decode jdk_52_method_21_code 7 = .ok (.if_icmp .ge 37, 3) := by decide +kernel
theorem d11_10 : decode jdk_52_method_21_code 10 = .ok (.aload_n 0, 1) := by decide +kernel
theorem d11_11 : decode jdk_52_method_21_code 11 = .ok (.iload_n 1, 1) := by decide +kernel
theorem d11_12 : decode jdk_52_method_21_code 12 = .ok (.caload, 1) := by decide +kernel
theorem d11_13 : decode jdk_52_method_21_code 13 = .ok (.istore 6, 2) := by decide +kernel
theorem d11_15 : decode jdk_52_method_21_code 15 = .ok (.iload 6, 2) := by decide +kernel
theorem d11_17 : decode jdk_52_method_21_code 17 = .ok (.sipush 255, 3) := by decide +kernel
theorem d11_20 : decode jdk_52_method_21_code 20 = .ok (.if_icmp .le 6, 3) := by decide +kernel
theorem d11_26 : decode jdk_52_method_21_code 26 = .ok (.aload_n 2, 1) := by decide +kernel
theorem d11_27 : decode jdk_52_method_21_code 27 = .ok (.iload_n 3, 1) := by decide +kernel
theorem d11_28 : decode jdk_52_method_21_code 28 = .ok (.iload 6, 2) := by decide +kernel
theorem d11_30 : decode jdk_52_method_21_code 30 = .ok (.i2b, 1) := by decide +kernel
theorem d11_31 : decode jdk_52_method_21_code 31 = .ok (.bastore, 1) := by decide +kernel
theorem d11_32 : decode jdk_52_method_21_code 32 = .ok (.iinc 1 1, 3) := by decide +kernel
theorem d11_35 : decode jdk_52_method_21_code 35 = .ok (.iinc 3 1, 3) := by decide +kernel
theorem d11_38 : decode jdk_52_method_21_code 38 = .ok (.iinc 5 1, 3) := by decide +kernel
theorem d11_41 : decode jdk_52_method_21_code 41 = .ok (.goto (-38), 3) := by decide +kernel
theorem d11_44 : decode jdk_52_method_21_code 44 = .ok (.iload 4, 2) := by decide +kernel
theorem d11_46 : decode jdk_52_method_21_code 46 = .ok (.ireturn, 1) := by decide +kernel
set_option maxRecDepth 65536 in
set_option maxHeartbeats 40000000 in
theorem own_11_5 (l : Launch) (Z : State) (a0 : Array Value) (hw : ∀ d ∈ tables_1, d.before a0 Z = true) (n0 : Nat) (h0 : Heap) (hsz : n0 ≤ h0.size) (o0 : Addr) (o1 : Addr) (x0 : Int32) (x1 : Int32) (x2 : Int32) (P0 : Sta Z h0 ST "COMPACT_STRINGS" "Z" (.int x0)) (P1 : Exa Z h0 o0 "[C") (P2 : Fa Z h0 o0 .char 2 (up (up (fun _ => (.int (0 : Int32))) 0 (.int x1)) 1 (.int x2))) (P3 : Exa Z h0 o1 "[B") (P4 : Fa Z h0 o1 .byte 2 (fun _ => (.int (0 : Int32)))) (N_o0_o1 : o0 ≠ o1) (G_o0 : n0 ≤ o0) (G_o1 : n0 ≤ o1) (lat_x1 : ¬ (255 : Int32) < x1) (lat_x2 : ¬ (255 : Int32) < x2) (nz_x0 : ¬ x0 = (0 : Int32)) :
    Met false l Z n0 (⟨"java/lang/StringUTF16", "compress", "([CI[BII)I"⟩ : MethodName) jdk_52_method_21_code 7 (some .int) ({ frames := 0, cells := 0, slots := 0, locals := 0 } : Room) #[(.ref o0), (.int (0 : Int32)), (.ref o1), (.int (0 : Int32)), (.int (2 : Int32))] h0 (fun v h => v = some (.int (2 : Int32)) ∧ Keep h0 h [o1] ∧ Sta Z h ST "COMPACT_STRINGS" "Z" (.int x0) ∧ Fa Z h o1 .byte 2 (up (up (fun _ => (.int (0 : Int32))) 0 (.int (nar .byte (x1.toInt8.toInt32)))) 1 (.int (nar .byte (x2.toInt8.toInt32))))) := by
  refine Met.of (plainFor_of_name pn_11) #[.val (.ref o0), .val (.int (0 : Int32)), .val (.ref o1), .val (.int (0 : Int32)), .val (.int (2 : Int32)), .unset, .unset] (fun m => by first | (simp [entryFrame, mkF, argsToLocals, Value.category]; done) | rfl) ?_
  intro p e s m below meth c C
  refine Wk.st (g' := (mkF m 1 #[.val (.ref o0), .val (.int (0 : Int32)), .val (.ref o1), .val (.int (0 : Int32)), .val (.int (2 : Int32)), .unset, .unset] [(.int (0 : Int32))])) (fun X t q => XS.iconst X.here C.hx rfl (hb C.hby d11_0) q) ?_
  refine Wk.st (g' := (mkF m 3 #[.val (.ref o0), .val (.int (0 : Int32)), .val (.ref o1), .val (.int (0 : Int32)), .val (.int (2 : Int32)), .val (.int (0 : Int32)), .unset] [])) (fun X t q => XS.istore X.here C.hx rfl (hb C.hby d11_1) rfl (l' := #[.val (.ref o0), .val (.int (0 : Int32)), .val (.ref o1), .val (.int (0 : Int32)), .val (.int (2 : Int32)), .val (.int (0 : Int32)), .unset]) rfl q) ?_
  refine Wk.ildW C d11_3 rfl ?_
  refine Wk.ildW C d11_5 rfl ?_
  refine Wk.icN C d11_7 (XT.ii_ge_f (by decide)) ?_
  refine Wk.ald C d11_10 rfl rfl ?_
  refine Wk.ild C d11_11 rfl ?_
  refine Wk.fLdC C P2 (i := 0) (by decide) (by decide) (by decide) (v := (.int x1)) (by simp [up]) d11_12 ?_
  show Wk _ p l e _ s m _ below meth c n0 _ h0 0 0 (mkF m 13 #[.val (.ref o0), .val (.int (0 : Int32)), .val (.ref o1), .val (.int (0 : Int32)), .val (.int (2 : Int32)), .val (.int (0 : Int32)), .unset] [(.int x1)])
  refine Wk.st (g' := (mkF m 15 #[.val (.ref o0), .val (.int (0 : Int32)), .val (.ref o1), .val (.int (0 : Int32)), .val (.int (2 : Int32)), .val (.int (0 : Int32)), .val (.int x1)] [])) (fun X t q => XS.istore X.here C.hx rfl (hb C.hby d11_13) rfl (l' := #[.val (.ref o0), .val (.int (0 : Int32)), .val (.ref o1), .val (.int (0 : Int32)), .val (.int (2 : Int32)), .val (.int (0 : Int32)), .val (.int x1)]) rfl q) ?_
  refine Wk.ildW C d11_15 rfl ?_
  refine Wk.st (g' := (mkF m 20 #[.val (.ref o0), .val (.int (0 : Int32)), .val (.ref o1), .val (.int (0 : Int32)), .val (.int (2 : Int32)), .val (.int (0 : Int32)), .val (.int x1)] [(.int (255 : Int32)), (.int x1)])) (fun X t q => XS.sipush X.here C.hx rfl (hb C.hby d11_17) q) ?_
  refine Wk.icY C (pc' := 26) d11_20 (XT.ii_le_t lat_x1) (by decide) (by decide) ?_
  refine Wk.ald C d11_26 rfl rfl ?_
  refine Wk.ild C d11_27 rfl ?_
  refine Wk.ildW C d11_28 rfl ?_
  refine Wk.st (g' := (mkF m 31 #[.val (.ref o0), .val (.int (0 : Int32)), .val (.ref o1), .val (.int (0 : Int32)), .val (.int (2 : Int32)), .val (.int (0 : Int32)), .val (.int x1)] [(.int (x1.toInt8.toInt32)), (.int (0 : Int32)), (.ref o1)])) (fun X t q => XS.i2b X.here C.hx rfl (hb C.hby d11_30) rfl q) ?_
  refine Wk.fStB C P4 (x' := (nar .byte (x1.toInt8.toInt32))) rfl (i := 0) (by decide) (by decide) (by decide) G_o1 d11_31 ?_
  intro h1 W2 F3
  have F4 : Sta Z h1 ST "COMPACT_STRINGS" "Z" (.int x0) := P0.wr W2
  have F5 : Exa Z h1 o0 "[C" := P1.wr W2
  have F6 : Fa Z h1 o0 .char 2 (up (up (fun _ => (.int (0 : Int32))) 0 (.int x1)) 1 (.int x2)) := P2.other W2 N_o0_o1
  have F7 : Exa Z h1 o1 "[B" := P3.wr W2
  have sz8 : n0 ≤ h1.size := Nat.le_trans hsz (Nat.le_of_eq W2.size.symm)
  have sy9 : h0.size ≤ h1.size := Nat.le_trans (Nat.le_refl h0.size) (Nat.le_of_eq W2.size.symm)
  have K10 := (Keep.refl h0 [o1]).wr W2 (Or.inl (by simp))
  show Wk _ p l e _ s m _ below meth c n0 _ h1 0 0 (mkF m 32 #[.val (.ref o0), .val (.int (0 : Int32)), .val (.ref o1), .val (.int (0 : Int32)), .val (.int (2 : Int32)), .val (.int (0 : Int32)), .val (.int x1)] [])
  refine Wk.st (g' := (mkF m 35 #[.val (.ref o0), .val (.int (1 : Int32)), .val (.ref o1), .val (.int (0 : Int32)), .val (.int (2 : Int32)), .val (.int (0 : Int32)), .val (.int x1)] [])) (fun X t q => XS.iinc X.here C.hx rfl (hb C.hby d11_32) rfl (l' := #[.val (.ref o0), .val (.int (1 : Int32)), .val (.ref o1), .val (.int (0 : Int32)), .val (.int (2 : Int32)), .val (.int (0 : Int32)), .val (.int x1)]) rfl q) ?_
  refine Wk.st (g' := (mkF m 38 #[.val (.ref o0), .val (.int (1 : Int32)), .val (.ref o1), .val (.int (1 : Int32)), .val (.int (2 : Int32)), .val (.int (0 : Int32)), .val (.int x1)] [])) (fun X t q => XS.iinc X.here C.hx rfl (hb C.hby d11_35) rfl (l' := #[.val (.ref o0), .val (.int (1 : Int32)), .val (.ref o1), .val (.int (1 : Int32)), .val (.int (2 : Int32)), .val (.int (0 : Int32)), .val (.int x1)]) rfl q) ?_
  refine Wk.st (g' := (mkF m 41 #[.val (.ref o0), .val (.int (1 : Int32)), .val (.ref o1), .val (.int (1 : Int32)), .val (.int (2 : Int32)), .val (.int (1 : Int32)), .val (.int x1)] [])) (fun X t q => XS.iinc X.here C.hx rfl (hb C.hby d11_38) rfl (l' := #[.val (.ref o0), .val (.int (1 : Int32)), .val (.ref o1), .val (.int (1 : Int32)), .val (.int (2 : Int32)), .val (.int (1 : Int32)), .val (.int x1)]) rfl q) ?_
  refine Wk.gto C (pc' := 3) d11_41 (by decide) (by decide) ?_
  refine Wk.ildW C d11_3 rfl ?_
  refine Wk.ildW C d11_5 rfl ?_
  refine Wk.icN C d11_7 (XT.ii_ge_f (by decide)) ?_
  refine Wk.ald C d11_10 rfl rfl ?_
  refine Wk.ild C d11_11 rfl ?_
  refine Wk.fLdC C F6 (i := 1) (by decide) (by decide) (by decide) (v := (.int x2)) (by simp [up]) d11_12 ?_
  show Wk _ p l e _ s m _ below meth c n0 _ h1 0 0 (mkF m 13 #[.val (.ref o0), .val (.int (1 : Int32)), .val (.ref o1), .val (.int (1 : Int32)), .val (.int (2 : Int32)), .val (.int (1 : Int32)), .val (.int x1)] [(.int x2)])
  refine Wk.st (g' := (mkF m 15 #[.val (.ref o0), .val (.int (1 : Int32)), .val (.ref o1), .val (.int (1 : Int32)), .val (.int (2 : Int32)), .val (.int (1 : Int32)), .val (.int x2)] [])) (fun X t q => XS.istore X.here C.hx rfl (hb C.hby d11_13) rfl (l' := #[.val (.ref o0), .val (.int (1 : Int32)), .val (.ref o1), .val (.int (1 : Int32)), .val (.int (2 : Int32)), .val (.int (1 : Int32)), .val (.int x2)]) rfl q) ?_
  refine Wk.ildW C d11_15 rfl ?_
  refine Wk.st (g' := (mkF m 20 #[.val (.ref o0), .val (.int (1 : Int32)), .val (.ref o1), .val (.int (1 : Int32)), .val (.int (2 : Int32)), .val (.int (1 : Int32)), .val (.int x2)] [(.int (255 : Int32)), (.int x2)])) (fun X t q => XS.sipush X.here C.hx rfl (hb C.hby d11_17) q) ?_
  refine Wk.icY C (pc' := 26) d11_20 (XT.ii_le_t lat_x2) (by decide) (by decide) ?_
  refine Wk.ald C d11_26 rfl rfl ?_
  refine Wk.ild C d11_27 rfl ?_
  refine Wk.ildW C d11_28 rfl ?_
  refine Wk.st (g' := (mkF m 31 #[.val (.ref o0), .val (.int (1 : Int32)), .val (.ref o1), .val (.int (1 : Int32)), .val (.int (2 : Int32)), .val (.int (1 : Int32)), .val (.int x2)] [(.int (x2.toInt8.toInt32)), (.int (1 : Int32)), (.ref o1)])) (fun X t q => XS.i2b X.here C.hx rfl (hb C.hby d11_30) rfl q) ?_
  refine Wk.fStB C F3 (x' := (nar .byte (x2.toInt8.toInt32))) rfl (i := 1) (by decide) (by decide) (by decide) G_o1 d11_31 ?_
  intro h11 W12 F13
  have F14 : Sta Z h11 ST "COMPACT_STRINGS" "Z" (.int x0) := F4.wr W12
  have F15 : Exa Z h11 o0 "[C" := F5.wr W12
  have F16 : Fa Z h11 o0 .char 2 (up (up (fun _ => (.int (0 : Int32))) 0 (.int x1)) 1 (.int x2)) := F6.other W12 N_o0_o1
  have F17 : Exa Z h11 o1 "[B" := F7.wr W12
  have sz18 : n0 ≤ h11.size := Nat.le_trans sz8 (Nat.le_of_eq W12.size.symm)
  have sy19 : h0.size ≤ h11.size := Nat.le_trans sy9 (Nat.le_of_eq W12.size.symm)
  have K20 := K10.wr W12 (Or.inl (by simp))
  show Wk _ p l e _ s m _ below meth c n0 _ h11 0 0 (mkF m 32 #[.val (.ref o0), .val (.int (1 : Int32)), .val (.ref o1), .val (.int (1 : Int32)), .val (.int (2 : Int32)), .val (.int (1 : Int32)), .val (.int x2)] [])
  refine Wk.st (g' := (mkF m 35 #[.val (.ref o0), .val (.int (2 : Int32)), .val (.ref o1), .val (.int (1 : Int32)), .val (.int (2 : Int32)), .val (.int (1 : Int32)), .val (.int x2)] [])) (fun X t q => XS.iinc X.here C.hx rfl (hb C.hby d11_32) rfl (l' := #[.val (.ref o0), .val (.int (2 : Int32)), .val (.ref o1), .val (.int (1 : Int32)), .val (.int (2 : Int32)), .val (.int (1 : Int32)), .val (.int x2)]) rfl q) ?_
  refine Wk.st (g' := (mkF m 38 #[.val (.ref o0), .val (.int (2 : Int32)), .val (.ref o1), .val (.int (2 : Int32)), .val (.int (2 : Int32)), .val (.int (1 : Int32)), .val (.int x2)] [])) (fun X t q => XS.iinc X.here C.hx rfl (hb C.hby d11_35) rfl (l' := #[.val (.ref o0), .val (.int (2 : Int32)), .val (.ref o1), .val (.int (2 : Int32)), .val (.int (2 : Int32)), .val (.int (1 : Int32)), .val (.int x2)]) rfl q) ?_
  refine Wk.st (g' := (mkF m 41 #[.val (.ref o0), .val (.int (2 : Int32)), .val (.ref o1), .val (.int (2 : Int32)), .val (.int (2 : Int32)), .val (.int (2 : Int32)), .val (.int x2)] [])) (fun X t q => XS.iinc X.here C.hx rfl (hb C.hby d11_38) rfl (l' := #[.val (.ref o0), .val (.int (2 : Int32)), .val (.ref o1), .val (.int (2 : Int32)), .val (.int (2 : Int32)), .val (.int (2 : Int32)), .val (.int x2)]) rfl q) ?_
  refine Wk.gto C (pc' := 3) d11_41 (by decide) (by decide) ?_
  refine Wk.ildW C d11_3 rfl ?_
  refine Wk.ildW C d11_5 rfl ?_
  refine Wk.icY C (pc' := 44) d11_7 (XT.ii_ge_t (by decide)) (by decide) (by decide) ?_
  refine Wk.ildW C d11_44 rfl ?_
  exact Wk.retV C (t := .int) rfl rfl (Or.inl ⟨rfl, by simp, _, rfl⟩) d11_46 (by decide) (by decide) ⟨rfl, K20, F14, F13⟩
theorem d10_0 : decode jdk_52_method_16_code 0 = .ok (.iload_n 2, 1) := by decide +kernel
theorem d10_1 : decode jdk_52_method_16_code 1 = .ok (.newarray .byte, 2) := by decide +kernel
theorem d10_3 : decode jdk_52_method_16_code 3 = .ok (.astore_n 3, 1) := by decide +kernel
theorem d10_4 : decode jdk_52_method_16_code 4 = .ok (.aload_n 0, 1) := by decide +kernel
theorem d10_5 : decode jdk_52_method_16_code 5 = .ok (.iload_n 1, 1) := by decide +kernel
theorem d10_6 : decode jdk_52_method_16_code 6 = .ok (.aload_n 3, 1) := by decide +kernel
theorem d10_7 : decode jdk_52_method_16_code 7 = .ok (.iconst 0, 1) := by decide +kernel
theorem d10_8 : decode jdk_52_method_16_code 8 = .ok (.iload_n 2, 1) := by decide +kernel
theorem d10_9 : decode jdk_52_method_16_code 9 = .ok (.invokestatic 115, 3) := by decide +kernel
theorem d10_12 : decode jdk_52_method_16_code 12 = .ok (.istore 4, 2) := by decide +kernel
theorem d10_14 : decode jdk_52_method_16_code 14 = .ok (.iload 4, 2) := by decide +kernel
theorem d10_16 : decode jdk_52_method_16_code 16 = .ok (.iload_n 2, 1) := by decide +kernel
theorem d10_17 : decode jdk_52_method_16_code 17 = .ok (.if_icmp .eq 40, 3) := by decide +kernel
theorem d10_57 : decode jdk_52_method_16_code 57 = .ok (.aload_n 3, 1) := by decide +kernel
theorem d10_58 : decode jdk_52_method_16_code 58 = .ok (.areturn, 1) := by decide +kernel
set_option maxRecDepth 65536 in
set_option maxHeartbeats 40000000 in
theorem own_10_5 (l : Launch) (Z : State) (a0 : Array Value) (hw : ∀ d ∈ tables_1, d.before a0 Z = true) (n0 : Nat) (h0 : Heap) (hsz : n0 ≤ h0.size) (o0 : Addr) (x0 : Int32) (x1 : Int32) (x2 : Int32) (P0 : Sta Z h0 ST "COMPACT_STRINGS" "Z" (.int x0)) (P1 : Exa Z h0 o0 "[C") (P2 : Fa Z h0 o0 .char 2 (up (up (fun _ => (.int (0 : Int32))) 0 (.int x1)) 1 (.int x2))) (G_o0 : n0 ≤ o0) (lat_x1 : ¬ (255 : Int32) < x1) (lat_x2 : ¬ (255 : Int32) < x2) (nz_x0 : ¬ x0 = (0 : Int32)) :
    Met false l Z n0 (⟨"java/lang/StringUTF16", "compress", "([CII)[B"⟩ : MethodName) jdk_52_method_16_code 6 (some (.array .byte)) ({ frames := 1, cells := 1, slots := 2, locals := 18 } : Room) #[(.ref o0), (.int (0 : Int32)), (.int (2 : Int32))] h0 (fun v h => ∃ b2 : Addr, v = some (.ref b2) ∧ Keep h0 h [] ∧ h0.size ≤ b2 ∧ Exa Z h b2 "[B" ∧ Sta Z h ST "COMPACT_STRINGS" "Z" (.int x0) ∧ Fa Z h b2 .byte 2 (up (up (fun _ => (.int (0 : Int32))) 0 (.int (nar .byte (x1.toInt8.toInt32)))) 1 (.int (nar .byte (x2.toInt8.toInt32))))) := by
  refine Met.of (plainFor_of_name pn_11) #[.val (.ref o0), .val (.int (0 : Int32)), .val (.int (2 : Int32)), .unset, .unset, .unset] (fun m => by first | (simp [entryFrame, mkF, argsToLocals, Value.category]; done) | rfl) ?_
  intro p e s m below meth c C
  refine Wk.ild C d10_0 rfl ?_
  refine Wk.fNewP C (wd hw 7) (ty := .byte) (dv := (.int (0 : Int32))) (N := 2) (ad := "[B") rfl rfl (by decide) (by decide) (by decide) (cap := 2) (by decide) (by decide) d10_1 (by decide) (by decide) ?_
  intro h1 b2 g3 E4 A5 F6
  have ne7 : o0 ≠ b2 := Nat.ne_of_lt (Nat.lt_of_lt_of_le P1.lt (Nat.le_of_eq g3.symm))
  have ge8 : n0 ≤ b2 := Nat.le_trans hsz (Nat.le_of_eq g3.symm)
  have gz9 : h0.size ≤ b2 := Nat.le_trans (Nat.le_refl h0.size) (Nat.le_of_eq g3.symm)
  have F10 : Sta Z h1 ST "COMPACT_STRINGS" "Z" (.int x0) := P0.ext E4
  have F11 : Exa Z h1 o0 "[C" := P1.ext E4
  have F12 : Fa Z h1 o0 .char 2 (up (up (fun _ => (.int (0 : Int32))) 0 (.int x1)) 1 (.int x2)) := P2.ext E4
  have sz13 : n0 ≤ h1.size := Nat.le_trans hsz E4.1
  have sy14 : h0.size ≤ h1.size := Nat.le_trans (Nat.le_refl h0.size) E4.1
  have K15 := (Keep.refl h0 []).ext E4
  show Wk _ p l e _ s m _ below meth c n0 _ h1 1 2 (mkF m 3 #[.val (.ref o0), .val (.int (0 : Int32)), .val (.int (2 : Int32)), .unset, .unset, .unset] [(.ref b2)])
  refine Wk.st (g' := (mkF m 4 #[.val (.ref o0), .val (.int (0 : Int32)), .val (.int (2 : Int32)), .val (.ref b2), .unset, .unset] [])) (fun X t q => XS.astoreN X.here C.hx rfl (hb C.hby d10_3) rfl rfl (l' := #[.val (.ref o0), .val (.int (0 : Int32)), .val (.int (2 : Int32)), .val (.ref b2), .unset, .unset]) rfl q) ?_
  refine Wk.ald C d10_4 rfl rfl ?_
  refine Wk.ild C d10_5 rfl ?_
  refine Wk.ald C d10_6 rfl rfl ?_
  refine Wk.st (g' := (mkF m 8 #[.val (.ref o0), .val (.int (0 : Int32)), .val (.int (2 : Int32)), .val (.ref b2), .unset, .unset] [(.int (0 : Int32)), (.ref b2), (.int (0 : Int32)), (.ref o0)])) (fun X t q => XS.iconst X.here C.hx rfl (hb C.hby d10_7) q) ?_
  refine Wk.ild C d10_8 rfl ?_
  refine Wk.callS C (z := (⟨"java/lang/StringUTF16", "compress", "([CI[BII)I"⟩ : MethodName)) (wd hw 71) (wd hw 72) (wd hw 69) (wd hw 73) (by decide) (own_11_5 l Z a0 hw n0 h1 sz13 o0 b2 x0 x1 x2 F10 F11 F12 A5 F6 ne7 G_o0 ge8 lat_x1 lat_x2 nz_x0) (w := 0) (by decide) (by decide) pd_38 rfl (rest := []) rfl rfl (Nat.le_of_eq rfl) (by decide) (by decide) d10_9 ?_
  rintro _ h17 ⟨rfl, K18, F19, F20⟩
  show Wk _ p l e _ s m _ below meth c n0 _ h17 1 2 (mkF m 12 #[.val (.ref o0), .val (.int (0 : Int32)), .val (.int (2 : Int32)), .val (.ref b2), .unset, .unset] [(.int (2 : Int32))])
  have F21 : Exa Z h17 o0 "[C" := F11.keep K18
  have F22 : Fa Z h17 o0 .char 2 (up (up (fun _ => (.int (0 : Int32))) 0 (.int x1)) 1 (.int x2)) := F12.keep K18 (nmS ne7 nm0)
  have F23 : Exa Z h17 b2 "[B" := A5.keep K18
  have sz24 : n0 ≤ h17.size := Nat.le_trans sz13 K18.1
  have K25 := K15.trans K18 (nvS (Or.inr gz9) nv0)
  have sy26 : h0.size ≤ h17.size := Nat.le_trans sy14 K18.1
  refine Wk.st (g' := (mkF m 14 #[.val (.ref o0), .val (.int (0 : Int32)), .val (.int (2 : Int32)), .val (.ref b2), .val (.int (2 : Int32)), .unset] [])) (fun X t q => XS.istore X.here C.hx rfl (hb C.hby d10_12) rfl (l' := #[.val (.ref o0), .val (.int (0 : Int32)), .val (.int (2 : Int32)), .val (.ref b2), .val (.int (2 : Int32)), .unset]) rfl q) ?_
  refine Wk.ildW C d10_14 rfl ?_
  refine Wk.ild C d10_16 rfl ?_
  refine Wk.icY C (pc' := 57) d10_17 (XT.ii_eq_t (by decide)) (by decide) (by decide) ?_
  refine Wk.ald C d10_57 rfl rfl ?_
  exact Wk.retV C (t := (.array .byte)) rfl rfl (Or.inr (Or.inr (Or.inr (Or.inr ⟨rfl, rfl, rfl⟩)))) d10_58 (by decide) (by decide) ⟨b2, rfl, K25, gz9, F23, F19, F20⟩
theorem d12_0 : decode jdk_52_method_15_code 0 = .ok (.iload_n 1, 1) := by decide +kernel
theorem d12_1 : decode jdk_52_method_15_code 1 = .ok (.aload_n 0, 1) := by decide +kernel
theorem d12_2 : decode jdk_52_method_15_code 2 = .ok (.arraylength, 1) := by decide +kernel
theorem d12_3 : decode jdk_52_method_15_code 3 = .ok (.isub, 1) := by decide +kernel
theorem d12_4 : decode jdk_52_method_15_code 4 = .ok (.bipush 31, 2) := by decide +kernel
theorem d12_6 : decode jdk_52_method_15_code 6 = .ok (.iushr, 1) := by decide +kernel
theorem d12_7 : decode jdk_52_method_15_code 7 = .ok (.i2b, 1) := by decide +kernel
theorem d12_8 : decode jdk_52_method_15_code 8 = .ok (.ireturn, 1) := by decide +kernel
set_option maxRecDepth 65536 in
set_option maxHeartbeats 40000000 in
theorem own_12_7 (l : Launch) (Z : State) (a0 : Array Value) (hw : ∀ d ∈ tables_1, d.before a0 Z = true) (n0 : Nat) (h0 : Heap) (hsz : n0 ≤ h0.size) (o0 : Addr) (x0 : Int32) (x1 : Int32) (x2 : Int32) (P0 : Exa Z h0 o0 "[B") (P1 : Sta Z h0 ST "COMPACT_STRINGS" "Z" (.int x0)) (P2 : Fa Z h0 o0 .byte 2 (up (up (fun _ => (.int (0 : Int32))) 0 (.int x1)) 1 (.int x2))) (G_o0 : n0 ≤ o0) (nz_x0 : ¬ x0 = (0 : Int32)) :
    Met false l Z n0 (⟨"java/lang/StringUTF16", "coderFromArrayLen", "([BI)B"⟩ : MethodName) jdk_52_method_15_code 2 (some .byte) ({ frames := 0, cells := 0, slots := 0, locals := 0 } : Room) #[(.ref o0), (.int (2 : Int32))] h0 (fun v h => v = some (.int (0 : Int32)) ∧ h0 = h) := by
  refine Met.of (plainFor_of_name pn_11) #[.val (.ref o0), .val (.int (2 : Int32))] (fun m => by first | (simp [entryFrame, mkF, argsToLocals, Value.category]; done) | rfl) ?_
  intro p e s m below meth c C
  refine Wk.ild C d12_0 rfl ?_
  refine Wk.ald C d12_1 rfl rfl ?_
  refine Wk.fLen C P2 (z := (2 : Int32)) (by decide) d12_2 ?_
  show Wk _ p l e _ s m _ below meth c n0 _ h0 0 0 (mkF m 3 #[.val (.ref o0), .val (.int (2 : Int32))] [(.int (2 : Int32)), (.int (2 : Int32))])
  refine Wk.st (g' := (mkF m 4 #[.val (.ref o0), .val (.int (2 : Int32))] [(.int (0 : Int32))])) (fun X t q => XS.isub X.here C.hx rfl (hb C.hby d12_3) rfl q) ?_
  refine Wk.st (g' := (mkF m 6 #[.val (.ref o0), .val (.int (2 : Int32))] [(.int (31 : Int32)), (.int (0 : Int32))])) (fun X t q => XS.bipush X.here C.hx rfl (hb C.hby d12_4) q) ?_
  refine Wk.st (g' := (mkF m 7 #[.val (.ref o0), .val (.int (2 : Int32))] [(.int (0 : Int32))])) (fun X t q => XS.iushr X.here C.hx rfl (hb C.hby d12_6) rfl q) ?_
  refine Wk.st (g' := (mkF m 8 #[.val (.ref o0), .val (.int (2 : Int32))] [(.int (0 : Int32))])) (fun X t q => XS.i2b X.here C.hx rfl (hb C.hby d12_7) rfl q) ?_
  exact Wk.retV C (t := .byte) rfl rfl (Or.inl ⟨rfl, by simp, _, rfl⟩) d12_8 (by decide) (by decide) ⟨rfl, rfl⟩
theorem d9_0 : decode jdk_42_method_149_code 0 = .ok (.aload_n 0, 1) := by decide +kernel
theorem d9_1 : decode jdk_42_method_149_code 1 = .ok (.invokespecial 1, 3) := by decide +kernel
theorem d9_4 : decode jdk_42_method_149_code 4 = .ok (.iload_n 3, 1) := by decide +kernel
theorem d9_5 : decode jdk_42_method_149_code 5 = .ok (.ifCond .ne 22, 3) := by decide +kernel
theorem d9_27 : decode jdk_42_method_149_code 27 = .ok (.getstatic 38, 3) := by decide +kernel
theorem d9_30 : decode jdk_42_method_149_code 30 = .ok (.ifCond .eq 28, 3) := by decide +kernel
theorem d9_33 : decode jdk_42_method_149_code 33 = .ok (.aload_n 1, 1) := by decide +kernel
theorem d9_34 : decode jdk_42_method_149_code 34 = .ok (.iload_n 2, 1) := by decide +kernel
theorem d9_35 : decode jdk_42_method_149_code 35 = .ok (.iload_n 3, 1) := by decide +kernel
theorem d9_36 : decode jdk_42_method_149_code 36 = .ok (.invokestatic 177, 3) := by decide +kernel
theorem d9_39 : decode jdk_42_method_149_code 39 = .ok (.astore 5, 2) := by decide +kernel
theorem d9_41 : decode jdk_42_method_149_code 41 = .ok (.aload_n 0, 1) := by decide +kernel
theorem d9_42 : decode jdk_42_method_149_code 42 = .ok (.aload 5, 2) := by decide +kernel
theorem d9_44 : decode jdk_42_method_149_code 44 = .ok (.iload_n 3, 1) := by decide +kernel
theorem d9_45 : decode jdk_42_method_149_code 45 = .ok (.invokestatic 47, 3) := by decide +kernel
theorem d9_48 : decode jdk_42_method_149_code 48 = .ok (.putfield 15, 3) := by decide +kernel
theorem d9_51 : decode jdk_42_method_149_code 51 = .ok (.aload_n 0, 1) := by decide +kernel
theorem d9_52 : decode jdk_42_method_149_code 52 = .ok (.aload 5, 2) := by decide +kernel
theorem d9_54 : decode jdk_42_method_149_code 54 = .ok (.putfield 9, 3) := by decide +kernel
theorem d9_57 : decode jdk_42_method_149_code 57 = .ok (.return_, 1) := by decide +kernel
set_option maxRecDepth 65536 in
set_option maxHeartbeats 40000000 in
theorem own_9_5 (l : Launch) (Z : State) (a0 : Array Value) (hw : ∀ d ∈ tables_1, d.before a0 Z = true) (n0 : Nat) (h0 : Heap) (hsz : n0 ≤ h0.size) (o0 : Addr) (o1 : Addr) (x0 : Int32) (x1 : Int32) (x2 : Int32) (P0 : Sta Z h0 ST "COMPACT_STRINGS" "Z" (.int x0)) (P1 : Exa Z h0 o0 ST) (P2 : Fld Z h0 o0 ST "value" "[B" .null) (P3 : Fld Z h0 o0 ST "coder" "B" (.int (0 : Int32))) (P4 : Exa Z h0 o1 "[C") (P5 : Fa Z h0 o1 .char 2 (up (up (fun _ => (.int (0 : Int32))) 0 (.int x1)) 1 (.int x2))) (N_o0_o1 : o0 ≠ o1) (G_o0 : n0 ≤ o0) (G_o1 : n0 ≤ o1) (lat_x1 : ¬ (255 : Int32) < x1) (lat_x2 : ¬ (255 : Int32) < x2) (nz_x0 : ¬ x0 = (0 : Int32)) :
    Met false l Z n0 (⟨ST, "<init>", "([CIILjava/lang/Void;)V"⟩ : MethodName) jdk_42_method_149_code 6 none ({ frames := 2, cells := 1, slots := 2, locals := 35 } : Room) #[(.ref o0), (.ref o1), (.int (0 : Int32)), (.int (2 : Int32)), .null] h0 (fun v h => ∃ n1_b2 : Addr, v = none ∧ Keep h0 h [o0] ∧ h0.size ≤ n1_b2 ∧ Exa Z h n1_b2 "[B" ∧ Sta Z h ST "COMPACT_STRINGS" "Z" (.int x0) ∧ Fa Z h n1_b2 .byte 2 (up (up (fun _ => (.int (0 : Int32))) 0 (.int (nar .byte (x1.toInt8.toInt32)))) 1 (.int (nar .byte (x2.toInt8.toInt32)))) ∧ Fld Z h o0 ST "coder" "B" (.int (0 : Int32)) ∧ Fld Z h o0 ST "value" "[B" (.ref n1_b2)) := by
  refine Met.of (plainFor_of_name pn_0) #[.val (.ref o0), .val (.ref o1), .val (.int (0 : Int32)), .val (.int (2 : Int32)), .val .null, .unset] (fun m => by first | (simp [entryFrame, mkF, argsToLocals, Value.category]; done) | rfl) ?_
  intro p e s m below meth c C
  refine Wk.ald C d9_0 rfl rfl ?_
  refine Wk.initO C (wd hw 65) (wd hw 19) (wd hw 20) (w := 0) rfl d9_1 (by decide) (Nat.le_of_eq rfl) (by decide) ?_
  show Wk _ p l e _ s m _ below meth c n0 _ h0 0 0 (mkF m 4 #[.val (.ref o0), .val (.ref o1), .val (.int (0 : Int32)), .val (.int (2 : Int32)), .val .null, .unset] [])
  refine Wk.ild C d9_4 rfl ?_
  refine Wk.ifY C (pc' := 27) d9_5 (XT.i0_ne_t (by decide)) (by decide) (by decide) ?_
  refine Wk.getS C (wd hw 66) P0 d9_27 ?_
  show Wk _ p l e _ s m _ below meth c n0 _ h0 0 0 (mkF m 30 #[.val (.ref o0), .val (.ref o1), .val (.int (0 : Int32)), .val (.int (2 : Int32)), .val .null, .unset] [(.int x0)])
  refine Wk.ifN C d9_30 (XT.i0_eq_f nz_x0) ?_
  refine Wk.ald C d9_33 rfl rfl ?_
  refine Wk.ild C d9_34 rfl ?_
  refine Wk.ild C d9_35 rfl ?_
  refine Wk.callS C (z := (⟨"java/lang/StringUTF16", "compress", "([CII)[B"⟩ : MethodName)) (wd hw 67) (wd hw 68) (wd hw 69) (wd hw 70) (by decide) (own_10_5 l Z a0 hw n0 h0 hsz o1 x0 x1 x2 P0 P4 P5  G_o1 lat_x1 lat_x2 nz_x0) (w := 0) (by decide) (by decide) pd_37 rfl (rest := []) rfl rfl (Nat.le_of_eq rfl) (by decide) (by decide) d9_36 ?_
  rintro _ h2 ⟨n1_b2, rfl, K3, gn7, F4, F5, F6⟩
  show Wk _ p l e _ s m _ below meth c n0 _ h2 1 2 (mkF m 39 #[.val (.ref o0), .val (.ref o1), .val (.int (0 : Int32)), .val (.int (2 : Int32)), .val .null, .unset] [(.ref n1_b2)])
  have ne8 : o0 ≠ n1_b2 := Nat.ne_of_lt (Nat.lt_of_lt_of_le P1.lt gn7)
  have ne9 : o1 ≠ n1_b2 := Nat.ne_of_lt (Nat.lt_of_lt_of_le P4.lt gn7)
  have ge10 : n0 ≤ n1_b2 := Nat.le_trans hsz gn7
  have gz11 : h0.size ≤ n1_b2 := Nat.le_trans (Nat.le_refl h0.size) gn7
  have F12 : Exa Z h2 o0 ST := P1.keep K3
  have F13 : Fld Z h2 o0 ST "value" "[B" .null := P2.keep K3 nm0
  have F14 : Fld Z h2 o0 ST "coder" "B" (.int (0 : Int32)) := P3.keep K3 nm0
  have F15 : Exa Z h2 o1 "[C" := P4.keep K3
  have F16 : Fa Z h2 o1 .char 2 (up (up (fun _ => (.int (0 : Int32))) 0 (.int x1)) 1 (.int x2)) := P5.keep K3 nm0
  have sz17 : n0 ≤ h2.size := Nat.le_trans hsz K3.1
  have K18 := (Keep.refl h0 [o0]).trans K3 nv0
  have sy19 : h0.size ≤ h2.size := Nat.le_trans (Nat.le_refl h0.size) K3.1
  refine Wk.st (g' := (mkF m 41 #[.val (.ref o0), .val (.ref o1), .val (.int (0 : Int32)), .val (.int (2 : Int32)), .val .null, .val (.ref n1_b2)] [])) (fun X t q => XS.astore X.here C.hx rfl (hb C.hby d9_39) rfl rfl (l' := #[.val (.ref o0), .val (.ref o1), .val (.int (0 : Int32)), .val (.int (2 : Int32)), .val .null, .val (.ref n1_b2)]) rfl q) ?_
  refine Wk.ald C d9_41 rfl rfl ?_
  refine Wk.aldW C d9_42 rfl rfl ?_
  refine Wk.ild C d9_44 rfl ?_
  refine Wk.callS C (z := (⟨"java/lang/StringUTF16", "coderFromArrayLen", "([BI)B"⟩ : MethodName)) (wd hw 74) (wd hw 75) (wd hw 69) (wd hw 76) (by decide) (own_12_7 l Z a0 hw n0 h2 sz17 n1_b2 x0 (nar .byte (x1.toInt8.toInt32)) (nar .byte (x2.toInt8.toInt32)) F4 F5 F6  ge10 nz_x0) (w := 1) (by decide) (by decide) pd_39 rfl (rest := [(.ref o0)]) rfl rfl (Nat.le_of_eq rfl) (by decide) (by decide) d9_45 ?_
  rintro _ _ ⟨rfl, rfl⟩
  show Wk _ p l e _ s m _ below meth c n0 _ h2 1 2 (mkF m 48 #[.val (.ref o0), .val (.ref o1), .val (.int (0 : Int32)), .val (.int (2 : Int32)), .val .null, .val (.ref n1_b2)] [(.int (0 : Int32)), (.ref o0)])
  refine Wk.putF C (wd hw 77) Via.refl F14 F12 (Or.inr ⟨(wd hw 9), rfl, rfl⟩) (wd hw 6) (ty := .byte) (by decide) (v' := (.int (0 : Int32))) rfl (by decide) G_o0 d9_48 ?_
  intro h23 W24
  have F25 : Fld Z h23 o0 ST "coder" "B" (.int (0 : Int32)) := F14.same W24
  have F26 : Exa Z h23 o0 ST := F12.wr W24
  have F27 : Fld Z h23 o0 ST "value" "[B" .null := F13.other W24 (Or.inr (slot_ne (Or.inr (wd hw 8)) (Or.inr (wd hw 9)) (by decide) (t := (.array .byte)) (t' := .byte) (by decide) (by decide)))
  have F28 : Exa Z h23 o1 "[C" := F15.wr W24
  have F29 : Fa Z h23 o1 .char 2 (up (up (fun _ => (.int (0 : Int32))) 0 (.int x1)) 1 (.int x2)) := F16.other W24 (Ne.symm N_o0_o1)
  have F30 : Exa Z h23 n1_b2 "[B" := F4.wr W24
  have F31 : Sta Z h23 ST "COMPACT_STRINGS" "Z" (.int x0) := F5.wr W24
  have F32 : Fa Z h23 n1_b2 .byte 2 (up (up (fun _ => (.int (0 : Int32))) 0 (.int (nar .byte (x1.toInt8.toInt32)))) 1 (.int (nar .byte (x2.toInt8.toInt32)))) := F6.other W24 (Ne.symm ne8)
  have sz33 : n0 ≤ h23.size := Nat.le_trans sz17 (Nat.le_of_eq W24.size.symm)
  have sy34 : h0.size ≤ h23.size := Nat.le_trans sy19 (Nat.le_of_eq W24.size.symm)
  have K35 := K18.wr W24 (Or.inl (by simp))
  show Wk _ p l e _ s m _ below meth c n0 _ h23 1 2 (mkF m 51 #[.val (.ref o0), .val (.ref o1), .val (.int (0 : Int32)), .val (.int (2 : Int32)), .val .null, .val (.ref n1_b2)] [])
  refine Wk.ald C d9_51 rfl rfl ?_
  refine Wk.aldW C d9_52 rfl rfl ?_
  refine Wk.putF C (wd hw 78) Via.refl F27 F26 (Or.inr ⟨(wd hw 8), rfl, rfl⟩) (wd hw 6) (ty := (.array .byte)) (by decide) (v' := (.ref n1_b2)) rfl rfl G_o0 d9_54 ?_
  intro h36 W37
  have F38 : Fld Z h36 o0 ST "value" "[B" (.ref n1_b2) := F27.same W37
  have F39 : Exa Z h36 o0 ST := F26.wr W37
  have F40 : Exa Z h36 o1 "[C" := F28.wr W37
  have F41 : Fa Z h36 o1 .char 2 (up (up (fun _ => (.int (0 : Int32))) 0 (.int x1)) 1 (.int x2)) := F29.other W37 (Ne.symm N_o0_o1)
  have F42 : Exa Z h36 n1_b2 "[B" := F30.wr W37
  have F43 : Sta Z h36 ST "COMPACT_STRINGS" "Z" (.int x0) := F31.wr W37
  have F44 : Fa Z h36 n1_b2 .byte 2 (up (up (fun _ => (.int (0 : Int32))) 0 (.int (nar .byte (x1.toInt8.toInt32)))) 1 (.int (nar .byte (x2.toInt8.toInt32)))) := F32.other W37 (Ne.symm ne8)
  have F45 : Fld Z h36 o0 ST "coder" "B" (.int (0 : Int32)) := F25.other W37 (Or.inr (slot_ne (Or.inr (wd hw 9)) (Or.inr (wd hw 8)) (by decide) (t := .byte) (t' := (.array .byte)) (by decide) (by decide)))
  have sz46 : n0 ≤ h36.size := Nat.le_trans sz33 (Nat.le_of_eq W37.size.symm)
  have sy47 : h0.size ≤ h36.size := Nat.le_trans sy34 (Nat.le_of_eq W37.size.symm)
  have K48 := K35.wr W37 (Or.inl (by simp))
  show Wk _ p l e _ s m _ below meth c n0 _ h36 1 2 (mkF m 57 #[.val (.ref o0), .val (.ref o1), .val (.int (0 : Int32)), .val (.int (2 : Int32)), .val .null, .val (.ref n1_b2)] [])
  exact Wk.retN0 C rfl d9_57 (by decide) (by decide) ⟨n1_b2, rfl, K48, gz11, F42, F43, F44, F45, F38⟩
theorem d8_0 : decode jdk_42_method_3_code 0 = .ok (.aload_n 0, 1) := by decide +kernel
theorem d8_1 : decode jdk_42_method_3_code 1 = .ok (.aload_n 1, 1) := by decide +kernel
theorem d8_2 : decode jdk_42_method_3_code 2 = .ok (.iconst 0, 1) := by decide +kernel
theorem d8_3 : decode jdk_42_method_3_code 3 = .ok (.aload_n 1, 1) := by decide +kernel
theorem d8_4 : decode jdk_42_method_3_code 4 = .ok (.arraylength, 1) := by decide +kernel
theorem d8_5 : decode jdk_42_method_3_code 5 = .ok (.aconst_null, 1) := by decide +kernel
theorem d8_6 : decode jdk_42_method_3_code 6 = .ok (.invokespecial 27, 3) := by decide +kernel
theorem d8_9 : decode jdk_42_method_3_code 9 = .ok (.return_, 1) := by decide +kernel
set_option maxRecDepth 65536 in
set_option maxHeartbeats 40000000 in
theorem own_8_5 (l : Launch) (Z : State) (a0 : Array Value) (hw : ∀ d ∈ tables_1, d.before a0 Z = true) (n0 : Nat) (h0 : Heap) (hsz : n0 ≤ h0.size) (o0 : Addr) (o1 : Addr) (x0 : Int32) (x1 : Int32) (x2 : Int32) (P0 : Sta Z h0 ST "COMPACT_STRINGS" "Z" (.int x0)) (P1 : Exa Z h0 o0 ST) (P2 : Fld Z h0 o0 ST "value" "[B" .null) (P3 : Fld Z h0 o0 ST "coder" "B" (.int (0 : Int32))) (P4 : Exa Z h0 o1 "[C") (P5 : Fa Z h0 o1 .char 2 (up (up (fun _ => (.int (0 : Int32))) 0 (.int x1)) 1 (.int x2))) (N_o0_o1 : o0 ≠ o1) (G_o0 : n0 ≤ o0) (G_o1 : n0 ≤ o1) (lat_x1 : ¬ (255 : Int32) < x1) (lat_x2 : ¬ (255 : Int32) < x2) (nz_x0 : ¬ x0 = (0 : Int32)) :
    Met false l Z n0 (⟨ST, "<init>", "([C)V"⟩ : MethodName) jdk_42_method_3_code 2 none ({ frames := 3, cells := 1, slots := 2, locals := 52 } : Room) #[(.ref o0), (.ref o1)] h0 (fun v h => ∃ n1_n1_b2 : Addr, v = none ∧ Keep h0 h [o0] ∧ h0.size ≤ n1_n1_b2 ∧ Exa Z h n1_n1_b2 "[B" ∧ Sta Z h ST "COMPACT_STRINGS" "Z" (.int x0) ∧ Fa Z h n1_n1_b2 .byte 2 (up (up (fun _ => (.int (0 : Int32))) 0 (.int (nar .byte (x1.toInt8.toInt32)))) 1 (.int (nar .byte (x2.toInt8.toInt32)))) ∧ Fld Z h o0 ST "coder" "B" (.int (0 : Int32)) ∧ Fld Z h o0 ST "value" "[B" (.ref n1_n1_b2)) := by
  refine Met.of (plainFor_of_name pn_0) #[.val (.ref o0), .val (.ref o1)] (fun m => by first | (simp [entryFrame, mkF, argsToLocals, Value.category]; done) | rfl) ?_
  intro p e s m below meth c C
  refine Wk.ald C d8_0 rfl rfl ?_
  refine Wk.ald C d8_1 rfl rfl ?_
  refine Wk.st (g' := (mkF m 3 #[.val (.ref o0), .val (.ref o1)] [(.int (0 : Int32)), (.ref o1), (.ref o0)])) (fun X t q => XS.iconst X.here C.hx rfl (hb C.hby d8_2) q) ?_
  refine Wk.ald C d8_3 rfl rfl ?_
  refine Wk.fLen C P5 (z := (2 : Int32)) (by decide) d8_4 ?_
  show Wk _ p l e _ s m _ below meth c n0 _ h0 0 0 (mkF m 5 #[.val (.ref o0), .val (.ref o1)] [(.int (2 : Int32)), (.int (0 : Int32)), (.ref o1), (.ref o0)])
  refine Wk.st (g' := (mkF m 6 #[.val (.ref o0), .val (.ref o1)] [.null, (.int (2 : Int32)), (.int (0 : Int32)), (.ref o1), (.ref o0)])) (fun X t q => XS.aconstNull X.here C.hx rfl (hb C.hby d8_5) q) ?_
  refine Wk.callI C (z := (⟨ST, "<init>", "([CIILjava/lang/Void;)V"⟩ : MethodName)) rfl (wd hw 61) (wd hw 62) (wd hw 5) (wd hw 64) (by decide) (own_9_5 l Z a0 hw n0 h0 hsz o0 o1 x0 x1 x2 P0 P1 P2 P3 P4 P5 N_o0_o1 G_o0 G_o1 lat_x1 lat_x2 nz_x0) (w := 0) (by decide) (by decide) pd_36 rfl (rest := []) rfl rfl (Nat.le_of_eq rfl) (by decide) (by decide) d8_6 ?_
  rintro _ h2 ⟨n1_n1_b2, rfl, K3, gn9, F4, F5, F6, F7, F8⟩
  show Wk _ p l e _ s m _ below meth c n0 _ h2 1 2 (mkF m 9 #[.val (.ref o0), .val (.ref o1)] [])
  have ne10 : o0 ≠ n1_n1_b2 := Nat.ne_of_lt (Nat.lt_of_lt_of_le P1.lt gn9)
  have ne11 : o1 ≠ n1_n1_b2 := Nat.ne_of_lt (Nat.lt_of_lt_of_le P4.lt gn9)
  have ge12 : n0 ≤ n1_n1_b2 := Nat.le_trans hsz gn9
  have gz13 : h0.size ≤ n1_n1_b2 := Nat.le_trans (Nat.le_refl h0.size) gn9
  have F14 : Exa Z h2 o0 ST := P1.keep K3
  have F15 : Exa Z h2 o1 "[C" := P4.keep K3
  have F16 : Fa Z h2 o1 .char 2 (up (up (fun _ => (.int (0 : Int32))) 0 (.int x1)) 1 (.int x2)) := P5.keep K3 (nmS (Ne.symm N_o0_o1) nm0)
  have sz17 : n0 ≤ h2.size := Nat.le_trans hsz K3.1
  have K18 := (Keep.refl h0 [o0]).trans K3 (nvS (Or.inl (by simp)) nv0)
  have sy19 : h0.size ≤ h2.size := Nat.le_trans (Nat.le_refl h0.size) K3.1
  exact Wk.retN0 C rfl d8_9 (by decide) (by decide) ⟨n1_n1_b2, rfl, K18, gz13, F4, F5, F6, F7, F8⟩
set_option maxRecDepth 65536 in
set_option maxHeartbeats 40000000 in
theorem own_1_5 (l : Launch) (Z : State) (a0 : Array Value) (hw : ∀ d ∈ tables_1, d.before a0 Z = true) (n0 : Nat) (h0 : Heap) (hsz : n0 ≤ h0.size) (x0 : Int32) (x1 : Int32) (P0 : Sta Z h0 ST "COMPACT_STRINGS" "Z" (.int x1)) (nz_x1 : ¬ x1 = (0 : Int32)) :
    Met false l Z n0 (⟨"com/example/amendatory/amendatory/BuilderClearPinLaw", "para", "(II)Ljava/lang/String;"⟩ : MethodName) method_4_code 5 (some (.object ST)) ({ frames := 4, cells := 3, slots := 10, locals := 66 } : Room) #[(.int (2 : Int32)), (.int x0)] h0 (fun v h => ∃ b2 : Addr, ∃ n53_n1_n1_b2 : Addr, v = some (.ref b2) ∧ Keep h0 h [] ∧ h0.size ≤ b2 ∧ h0.size ≤ n53_n1_n1_b2 ∧ b2 ≠ n53_n1_n1_b2 ∧ Exa Z h b2 ST ∧ Exa Z h n53_n1_n1_b2 "[B" ∧ Sta Z h ST "COMPACT_STRINGS" "Z" (.int x1) ∧ Fa Z h n53_n1_n1_b2 .byte 2 (up (up (fun _ => (.int (0 : Int32))) 0 (.int (nar .byte ((nar .char ((x0 &&& (255 : Int32)).toUInt32.toUInt16.toUInt32.toInt32)).toInt8.toInt32)))) 1 (.int (nar .byte ((nar .char ((((x0.toUInt32 >>> ((8 : Int32) &&& 31).toUInt32).toInt32) &&& (255 : Int32)).toUInt32.toUInt16.toUInt32.toInt32)).toInt8.toInt32)))) ∧ Fld Z h b2 ST "coder" "B" (.int (0 : Int32)) ∧ Fld Z h b2 ST "value" "[B" (.ref n53_n1_n1_b2)) := by
  refine Met.of (plainFor_of_name pn_10) #[.val (.int (2 : Int32)), .val (.int x0), .unset, .unset, .unset] (fun m => by first | (simp [entryFrame, mkF, argsToLocals, Value.category]; done) | rfl) ?_
  intro p e s m below meth c C
  refine Wk.ild C d1_0 rfl ?_
  refine Wk.st (g' := (mkF m 4 #[.val (.int (2 : Int32)), .val (.int x0), .unset, .unset, .unset] [(.int (255 : Int32)), (.int x0)])) (fun X t q => XS.sipush X.here C.hx rfl (hb C.hby d1_1) q) ?_
  refine Wk.st (g' := (mkF m 5 #[.val (.int (2 : Int32)), .val (.int x0), .unset, .unset, .unset] [(.int (x0 &&& (255 : Int32)))])) (fun X t q => XS.iand X.here C.hx rfl (hb C.hby d1_4) rfl q) ?_
  refine Wk.st (g' := (mkF m 6 #[.val (.int (2 : Int32)), .val (.int x0), .unset, .unset, .unset] [(.int ((x0 &&& (255 : Int32)).toUInt32.toUInt16.toUInt32.toInt32))])) (fun X t q => XS.i2c X.here C.hx rfl (hb C.hby d1_5) rfl q) ?_
  refine Wk.st (g' := (mkF m 7 #[.val (.int (2 : Int32)), .val (.int x0), .val (.int ((x0 &&& (255 : Int32)).toUInt32.toUInt16.toUInt32.toInt32)), .unset, .unset] [])) (fun X t q => XS.istoreN X.here C.hx rfl (hb C.hby d1_6) rfl (l' := #[.val (.int (2 : Int32)), .val (.int x0), .val (.int ((x0 &&& (255 : Int32)).toUInt32.toUInt16.toUInt32.toInt32)), .unset, .unset]) rfl q) ?_
  refine Wk.ild C d1_7 rfl ?_
  refine Wk.st (g' := (mkF m 10 #[.val (.int (2 : Int32)), .val (.int x0), .val (.int ((x0 &&& (255 : Int32)).toUInt32.toUInt16.toUInt32.toInt32)), .unset, .unset] [(.int (8 : Int32)), (.int x0)])) (fun X t q => XS.bipush X.here C.hx rfl (hb C.hby d1_8) q) ?_
  refine Wk.st (g' := (mkF m 11 #[.val (.int (2 : Int32)), .val (.int x0), .val (.int ((x0 &&& (255 : Int32)).toUInt32.toUInt16.toUInt32.toInt32)), .unset, .unset] [(.int ((x0.toUInt32 >>> ((8 : Int32) &&& 31).toUInt32).toInt32))])) (fun X t q => XS.iushr X.here C.hx rfl (hb C.hby d1_10) rfl q) ?_
  refine Wk.st (g' := (mkF m 14 #[.val (.int (2 : Int32)), .val (.int x0), .val (.int ((x0 &&& (255 : Int32)).toUInt32.toUInt16.toUInt32.toInt32)), .unset, .unset] [(.int (255 : Int32)), (.int ((x0.toUInt32 >>> ((8 : Int32) &&& 31).toUInt32).toInt32))])) (fun X t q => XS.sipush X.here C.hx rfl (hb C.hby d1_11) q) ?_
  refine Wk.st (g' := (mkF m 15 #[.val (.int (2 : Int32)), .val (.int x0), .val (.int ((x0 &&& (255 : Int32)).toUInt32.toUInt16.toUInt32.toInt32)), .unset, .unset] [(.int (((x0.toUInt32 >>> ((8 : Int32) &&& 31).toUInt32).toInt32) &&& (255 : Int32)))])) (fun X t q => XS.iand X.here C.hx rfl (hb C.hby d1_14) rfl q) ?_
  refine Wk.st (g' := (mkF m 16 #[.val (.int (2 : Int32)), .val (.int x0), .val (.int ((x0 &&& (255 : Int32)).toUInt32.toUInt16.toUInt32.toInt32)), .unset, .unset] [(.int ((((x0.toUInt32 >>> ((8 : Int32) &&& 31).toUInt32).toInt32) &&& (255 : Int32)).toUInt32.toUInt16.toUInt32.toInt32))])) (fun X t q => XS.i2c X.here C.hx rfl (hb C.hby d1_15) rfl q) ?_
  refine Wk.st (g' := (mkF m 17 #[.val (.int (2 : Int32)), .val (.int x0), .val (.int ((x0 &&& (255 : Int32)).toUInt32.toUInt16.toUInt32.toInt32)), .val (.int ((((x0.toUInt32 >>> ((8 : Int32) &&& 31).toUInt32).toInt32) &&& (255 : Int32)).toUInt32.toUInt16.toUInt32.toInt32)), .unset] [])) (fun X t q => XS.istoreN X.here C.hx rfl (hb C.hby d1_16) rfl (l' := #[.val (.int (2 : Int32)), .val (.int x0), .val (.int ((x0 &&& (255 : Int32)).toUInt32.toUInt16.toUInt32.toInt32)), .val (.int ((((x0.toUInt32 >>> ((8 : Int32) &&& 31).toUInt32).toInt32) &&& (255 : Int32)).toUInt32.toUInt16.toUInt32.toInt32)), .unset]) rfl q) ?_
  refine Wk.ild C d1_17 rfl ?_
  refine Wk.st (g' := (mkF m 20 #[.val (.int (2 : Int32)), .val (.int x0), .val (.int ((x0 &&& (255 : Int32)).toUInt32.toUInt16.toUInt32.toInt32)), .val (.int ((((x0.toUInt32 >>> ((8 : Int32) &&& 31).toUInt32).toInt32) &&& (255 : Int32)).toUInt32.toUInt16.toUInt32.toInt32)), .unset] [(.int (16 : Int32)), (.int x0)])) (fun X t q => XS.bipush X.here C.hx rfl (hb C.hby d1_18) q) ?_
  refine Wk.st (g' := (mkF m 21 #[.val (.int (2 : Int32)), .val (.int x0), .val (.int ((x0 &&& (255 : Int32)).toUInt32.toUInt16.toUInt32.toInt32)), .val (.int ((((x0.toUInt32 >>> ((8 : Int32) &&& 31).toUInt32).toInt32) &&& (255 : Int32)).toUInt32.toUInt16.toUInt32.toInt32)), .unset] [(.int ((x0.toUInt32 >>> ((16 : Int32) &&& 31).toUInt32).toInt32))])) (fun X t q => XS.iushr X.here C.hx rfl (hb C.hby d1_20) rfl q) ?_
  refine Wk.st (g' := (mkF m 24 #[.val (.int (2 : Int32)), .val (.int x0), .val (.int ((x0 &&& (255 : Int32)).toUInt32.toUInt16.toUInt32.toInt32)), .val (.int ((((x0.toUInt32 >>> ((8 : Int32) &&& 31).toUInt32).toInt32) &&& (255 : Int32)).toUInt32.toUInt16.toUInt32.toInt32)), .unset] [(.int (255 : Int32)), (.int ((x0.toUInt32 >>> ((16 : Int32) &&& 31).toUInt32).toInt32))])) (fun X t q => XS.sipush X.here C.hx rfl (hb C.hby d1_21) q) ?_
  refine Wk.st (g' := (mkF m 25 #[.val (.int (2 : Int32)), .val (.int x0), .val (.int ((x0 &&& (255 : Int32)).toUInt32.toUInt16.toUInt32.toInt32)), .val (.int ((((x0.toUInt32 >>> ((8 : Int32) &&& 31).toUInt32).toInt32) &&& (255 : Int32)).toUInt32.toUInt16.toUInt32.toInt32)), .unset] [(.int (((x0.toUInt32 >>> ((16 : Int32) &&& 31).toUInt32).toInt32) &&& (255 : Int32)))])) (fun X t q => XS.iand X.here C.hx rfl (hb C.hby d1_24) rfl q) ?_
  refine Wk.st (g' := (mkF m 26 #[.val (.int (2 : Int32)), .val (.int x0), .val (.int ((x0 &&& (255 : Int32)).toUInt32.toUInt16.toUInt32.toInt32)), .val (.int ((((x0.toUInt32 >>> ((8 : Int32) &&& 31).toUInt32).toInt32) &&& (255 : Int32)).toUInt32.toUInt16.toUInt32.toInt32)), .unset] [(.int ((((x0.toUInt32 >>> ((16 : Int32) &&& 31).toUInt32).toInt32) &&& (255 : Int32)).toUInt32.toUInt16.toUInt32.toInt32))])) (fun X t q => XS.i2c X.here C.hx rfl (hb C.hby d1_25) rfl q) ?_
  refine Wk.st (g' := (mkF m 28 #[.val (.int (2 : Int32)), .val (.int x0), .val (.int ((x0 &&& (255 : Int32)).toUInt32.toUInt16.toUInt32.toInt32)), .val (.int ((((x0.toUInt32 >>> ((8 : Int32) &&& 31).toUInt32).toInt32) &&& (255 : Int32)).toUInt32.toUInt16.toUInt32.toInt32)), .val (.int ((((x0.toUInt32 >>> ((16 : Int32) &&& 31).toUInt32).toInt32) &&& (255 : Int32)).toUInt32.toUInt16.toUInt32.toInt32))] [])) (fun X t q => XS.istore X.here C.hx rfl (hb C.hby d1_26) rfl (l' := #[.val (.int (2 : Int32)), .val (.int x0), .val (.int ((x0 &&& (255 : Int32)).toUInt32.toUInt16.toUInt32.toInt32)), .val (.int ((((x0.toUInt32 >>> ((8 : Int32) &&& 31).toUInt32).toInt32) &&& (255 : Int32)).toUInt32.toUInt16.toUInt32.toInt32)), .val (.int ((((x0.toUInt32 >>> ((16 : Int32) &&& 31).toUInt32).toInt32) &&& (255 : Int32)).toUInt32.toUInt16.toUInt32.toInt32))]) rfl q) ?_
  refine Wk.ild C d1_28 rfl ?_
  refine Wk.ifY C (pc' := 35) d1_29 (XT.i0_ne_t (by decide)) (by decide) (by decide) ?_
  refine Wk.ild C d1_35 rfl ?_
  refine Wk.st (g' := (mkF m 37 #[.val (.int (2 : Int32)), .val (.int x0), .val (.int ((x0 &&& (255 : Int32)).toUInt32.toUInt16.toUInt32.toInt32)), .val (.int ((((x0.toUInt32 >>> ((8 : Int32) &&& 31).toUInt32).toInt32) &&& (255 : Int32)).toUInt32.toUInt16.toUInt32.toInt32)), .val (.int ((((x0.toUInt32 >>> ((16 : Int32) &&& 31).toUInt32).toInt32) &&& (255 : Int32)).toUInt32.toUInt16.toUInt32.toInt32))] [(.int (1 : Int32)), (.int (2 : Int32))])) (fun X t q => XS.iconst X.here C.hx rfl (hb C.hby d1_36) q) ?_
  refine Wk.icY C (pc' := 45) d1_37 (XT.ii_ne_t (by decide)) (by decide) (by decide) ?_
  refine Wk.ild C d1_45 rfl ?_
  refine Wk.st (g' := (mkF m 47 #[.val (.int (2 : Int32)), .val (.int x0), .val (.int ((x0 &&& (255 : Int32)).toUInt32.toUInt16.toUInt32.toInt32)), .val (.int ((((x0.toUInt32 >>> ((8 : Int32) &&& 31).toUInt32).toInt32) &&& (255 : Int32)).toUInt32.toUInt16.toUInt32.toInt32)), .val (.int ((((x0.toUInt32 >>> ((16 : Int32) &&& 31).toUInt32).toInt32) &&& (255 : Int32)).toUInt32.toUInt16.toUInt32.toInt32))] [(.int (2 : Int32)), (.int (2 : Int32))])) (fun X t q => XS.iconst X.here C.hx rfl (hb C.hby d1_46) q) ?_
  refine Wk.icN C d1_47 (XT.ii_ne_f (by decide)) ?_
  refine Wk.newO C (wd hw 56) (wd hw 6) (wd hw 5) d1_50 (by decide) (by decide) ?_
  intro h1 b2 g3 E4 A5 D6
  have ge7 : n0 ≤ b2 := Nat.le_trans hsz (Nat.le_of_eq g3.symm)
  have gz8 : h0.size ≤ b2 := Nat.le_trans (Nat.le_refl h0.size) (Nat.le_of_eq g3.symm)
  have F9 : Sta Z h1 ST "COMPACT_STRINGS" "Z" (.int x1) := P0.ext E4
  have sz10 : n0 ≤ h1.size := Nat.le_trans hsz E4.1
  have sy11 : h0.size ≤ h1.size := Nat.le_trans (Nat.le_refl h0.size) E4.1
  have K12 := (Keep.refl h0 []).ext E4
  have F13 : Fld Z h1 b2 ST "value" "[B" .null := D6 (Or.inr (wd hw 8)) (ty := (.array .byte)) (by decide)
  have F14 : Fld Z h1 b2 ST "coder" "B" (.int (0 : Int32)) := D6 (Or.inr (wd hw 9)) (ty := .byte) (by decide)
  show Wk _ p l e _ s m _ below meth c n0 _ h1 1 4 (mkF m 53 #[.val (.int (2 : Int32)), .val (.int x0), .val (.int ((x0 &&& (255 : Int32)).toUInt32.toUInt16.toUInt32.toInt32)), .val (.int ((((x0.toUInt32 >>> ((8 : Int32) &&& 31).toUInt32).toInt32) &&& (255 : Int32)).toUInt32.toUInt16.toUInt32.toInt32)), .val (.int ((((x0.toUInt32 >>> ((16 : Int32) &&& 31).toUInt32).toInt32) &&& (255 : Int32)).toUInt32.toUInt16.toUInt32.toInt32))] [(.ref b2)])
  refine Wk.dupS C d1_53 rfl ?_
  refine Wk.st (g' := (mkF m 55 #[.val (.int (2 : Int32)), .val (.int x0), .val (.int ((x0 &&& (255 : Int32)).toUInt32.toUInt16.toUInt32.toInt32)), .val (.int ((((x0.toUInt32 >>> ((8 : Int32) &&& 31).toUInt32).toInt32) &&& (255 : Int32)).toUInt32.toUInt16.toUInt32.toInt32)), .val (.int ((((x0.toUInt32 >>> ((16 : Int32) &&& 31).toUInt32).toInt32) &&& (255 : Int32)).toUInt32.toUInt16.toUInt32.toInt32))] [(.int (2 : Int32)), (.ref b2), (.ref b2)])) (fun X t q => XS.iconst X.here C.hx rfl (hb C.hby d1_54) q) ?_
  refine Wk.fNewP C (wd hw 57) (ty := .char) (dv := (.int (0 : Int32))) (N := 2) (ad := "[C") rfl rfl (by decide) (by decide) (by decide) (cap := 2) (by decide) (by decide) d1_55 (by decide) (by decide) ?_
  intro h15 b16 g17 E18 A19 F20
  have ne21 : b2 ≠ b16 := Nat.ne_of_lt (Nat.lt_of_lt_of_le A5.lt (Nat.le_of_eq g17.symm))
  have ge22 : n0 ≤ b16 := Nat.le_trans sz10 (Nat.le_of_eq g17.symm)
  have gz23 : h0.size ≤ b16 := Nat.le_trans sy11 (Nat.le_of_eq g17.symm)
  have F24 : Sta Z h15 ST "COMPACT_STRINGS" "Z" (.int x1) := F9.ext E18
  have F25 : Exa Z h15 b2 ST := A5.ext E18
  have F26 : Fld Z h15 b2 ST "value" "[B" .null := F13.ext E18
  have F27 : Fld Z h15 b2 ST "coder" "B" (.int (0 : Int32)) := F14.ext E18
  have sz28 : n0 ≤ h15.size := Nat.le_trans sz10 E18.1
  have sy29 : h0.size ≤ h15.size := Nat.le_trans sy11 E18.1
  have K30 := K12.ext E18
  show Wk _ p l e _ s m _ below meth c n0 _ h15 2 6 (mkF m 57 #[.val (.int (2 : Int32)), .val (.int x0), .val (.int ((x0 &&& (255 : Int32)).toUInt32.toUInt16.toUInt32.toInt32)), .val (.int ((((x0.toUInt32 >>> ((8 : Int32) &&& 31).toUInt32).toInt32) &&& (255 : Int32)).toUInt32.toUInt16.toUInt32.toInt32)), .val (.int ((((x0.toUInt32 >>> ((16 : Int32) &&& 31).toUInt32).toInt32) &&& (255 : Int32)).toUInt32.toUInt16.toUInt32.toInt32))] [(.ref b16), (.ref b2), (.ref b2)])
  refine Wk.dupS C d1_57 rfl ?_
  refine Wk.st (g' := (mkF m 59 #[.val (.int (2 : Int32)), .val (.int x0), .val (.int ((x0 &&& (255 : Int32)).toUInt32.toUInt16.toUInt32.toInt32)), .val (.int ((((x0.toUInt32 >>> ((8 : Int32) &&& 31).toUInt32).toInt32) &&& (255 : Int32)).toUInt32.toUInt16.toUInt32.toInt32)), .val (.int ((((x0.toUInt32 >>> ((16 : Int32) &&& 31).toUInt32).toInt32) &&& (255 : Int32)).toUInt32.toUInt16.toUInt32.toInt32))] [(.int (0 : Int32)), (.ref b16), (.ref b16), (.ref b2), (.ref b2)])) (fun X t q => XS.iconst X.here C.hx rfl (hb C.hby d1_58) q) ?_
  refine Wk.ild C d1_59 rfl ?_
  refine Wk.fStC C F20 (x' := (nar .char ((x0 &&& (255 : Int32)).toUInt32.toUInt16.toUInt32.toInt32))) rfl (i := 0) (by decide) (by decide) (by decide) ge22 d1_60 ?_
  intro h31 W32 F33
  have F34 : Sta Z h31 ST "COMPACT_STRINGS" "Z" (.int x1) := F24.wr W32
  have F35 : Exa Z h31 b2 ST := F25.wr W32
  have F36 : Fld Z h31 b2 ST "value" "[B" .null := F26.other W32 (Or.inl ne21)
  have F37 : Fld Z h31 b2 ST "coder" "B" (.int (0 : Int32)) := F27.other W32 (Or.inl ne21)
  have F38 : Exa Z h31 b16 "[C" := A19.wr W32
  have sz39 : n0 ≤ h31.size := Nat.le_trans sz28 (Nat.le_of_eq W32.size.symm)
  have sy40 : h0.size ≤ h31.size := Nat.le_trans sy29 (Nat.le_of_eq W32.size.symm)
  have K41 := K30.wr W32 (Or.inr gz23)
  show Wk _ p l e _ s m _ below meth c n0 _ h31 2 6 (mkF m 61 #[.val (.int (2 : Int32)), .val (.int x0), .val (.int ((x0 &&& (255 : Int32)).toUInt32.toUInt16.toUInt32.toInt32)), .val (.int ((((x0.toUInt32 >>> ((8 : Int32) &&& 31).toUInt32).toInt32) &&& (255 : Int32)).toUInt32.toUInt16.toUInt32.toInt32)), .val (.int ((((x0.toUInt32 >>> ((16 : Int32) &&& 31).toUInt32).toInt32) &&& (255 : Int32)).toUInt32.toUInt16.toUInt32.toInt32))] [(.ref b16), (.ref b2), (.ref b2)])
  refine Wk.dupS C d1_61 rfl ?_
  refine Wk.st (g' := (mkF m 63 #[.val (.int (2 : Int32)), .val (.int x0), .val (.int ((x0 &&& (255 : Int32)).toUInt32.toUInt16.toUInt32.toInt32)), .val (.int ((((x0.toUInt32 >>> ((8 : Int32) &&& 31).toUInt32).toInt32) &&& (255 : Int32)).toUInt32.toUInt16.toUInt32.toInt32)), .val (.int ((((x0.toUInt32 >>> ((16 : Int32) &&& 31).toUInt32).toInt32) &&& (255 : Int32)).toUInt32.toUInt16.toUInt32.toInt32))] [(.int (1 : Int32)), (.ref b16), (.ref b16), (.ref b2), (.ref b2)])) (fun X t q => XS.iconst X.here C.hx rfl (hb C.hby d1_62) q) ?_
  refine Wk.ild C d1_63 rfl ?_
  refine Wk.fStC C F33 (x' := (nar .char ((((x0.toUInt32 >>> ((8 : Int32) &&& 31).toUInt32).toInt32) &&& (255 : Int32)).toUInt32.toUInt16.toUInt32.toInt32))) rfl (i := 1) (by decide) (by decide) (by decide) ge22 d1_64 ?_
  intro h42 W43 F44
  have F45 : Sta Z h42 ST "COMPACT_STRINGS" "Z" (.int x1) := F34.wr W43
  have F46 : Exa Z h42 b2 ST := F35.wr W43
  have F47 : Fld Z h42 b2 ST "value" "[B" .null := F36.other W43 (Or.inl ne21)
  have F48 : Fld Z h42 b2 ST "coder" "B" (.int (0 : Int32)) := F37.other W43 (Or.inl ne21)
  have F49 : Exa Z h42 b16 "[C" := F38.wr W43
  have sz50 : n0 ≤ h42.size := Nat.le_trans sz39 (Nat.le_of_eq W43.size.symm)
  have sy51 : h0.size ≤ h42.size := Nat.le_trans sy40 (Nat.le_of_eq W43.size.symm)
  have K52 := K41.wr W43 (Or.inr gz23)
  show Wk _ p l e _ s m _ below meth c n0 _ h42 2 6 (mkF m 65 #[.val (.int (2 : Int32)), .val (.int x0), .val (.int ((x0 &&& (255 : Int32)).toUInt32.toUInt16.toUInt32.toInt32)), .val (.int ((((x0.toUInt32 >>> ((8 : Int32) &&& 31).toUInt32).toInt32) &&& (255 : Int32)).toUInt32.toUInt16.toUInt32.toInt32)), .val (.int ((((x0.toUInt32 >>> ((16 : Int32) &&& 31).toUInt32).toInt32) &&& (255 : Int32)).toUInt32.toUInt16.toUInt32.toInt32))] [(.ref b16), (.ref b2), (.ref b2)])
  refine Wk.callI C (z := (⟨ST, "<init>", "([C)V"⟩ : MethodName)) rfl (wd hw 58) (wd hw 59) (wd hw 5) (wd hw 60) (by decide) (own_8_5 l Z a0 hw n0 h42 sz50 b2 b16 x1 (nar .char ((x0 &&& (255 : Int32)).toUInt32.toUInt16.toUInt32.toInt32)) (nar .char ((((x0.toUInt32 >>> ((8 : Int32) &&& 31).toUInt32).toInt32) &&& (255 : Int32)).toUInt32.toUInt16.toUInt32.toInt32)) F45 F46 F47 F48 F49 F44 ne21 ge7 ge22 (latn x0) (latn ((x0.toUInt32 >>> ((8 : Int32) &&& 31).toUInt32).toInt32)) nz_x1) (w := 1) (by decide) (by decide) pd_35 rfl (rest := [(.ref b2)]) rfl rfl (Nat.le_of_eq rfl) (by decide) (by decide) d1_65 ?_
  rintro _ h54 ⟨n53_n1_n1_b2, rfl, K55, gn61, F56, F57, F58, F59, F60⟩
  show Wk _ p l e _ s m _ below meth c n0 _ h54 3 8 (mkF m 68 #[.val (.int (2 : Int32)), .val (.int x0), .val (.int ((x0 &&& (255 : Int32)).toUInt32.toUInt16.toUInt32.toInt32)), .val (.int ((((x0.toUInt32 >>> ((8 : Int32) &&& 31).toUInt32).toInt32) &&& (255 : Int32)).toUInt32.toUInt16.toUInt32.toInt32)), .val (.int ((((x0.toUInt32 >>> ((16 : Int32) &&& 31).toUInt32).toInt32) &&& (255 : Int32)).toUInt32.toUInt16.toUInt32.toInt32))] [(.ref b2)])
  have ne62 : b2 ≠ n53_n1_n1_b2 := Nat.ne_of_lt (Nat.lt_of_lt_of_le F46.lt gn61)
  have ne63 : b16 ≠ n53_n1_n1_b2 := Nat.ne_of_lt (Nat.lt_of_lt_of_le F49.lt gn61)
  have ge64 : n0 ≤ n53_n1_n1_b2 := Nat.le_trans sz50 gn61
  have gz65 : h0.size ≤ n53_n1_n1_b2 := Nat.le_trans sy51 gn61
  have F66 : Exa Z h54 b2 ST := F46.keep K55
  have F67 : Exa Z h54 b16 "[C" := F49.keep K55
  have F68 : Fa Z h54 b16 .char 2 (up (up (fun _ => (.int (0 : Int32))) 0 (.int (nar .char ((x0 &&& (255 : Int32)).toUInt32.toUInt16.toUInt32.toInt32)))) 1 (.int (nar .char ((((x0.toUInt32 >>> ((8 : Int32) &&& 31).toUInt32).toInt32) &&& (255 : Int32)).toUInt32.toUInt16.toUInt32.toInt32)))) := F44.keep K55 (nmS (Ne.symm ne21) nm0)
  have sz69 : n0 ≤ h54.size := Nat.le_trans sz50 K55.1
  have K70 := K52.trans K55 (nvS (Or.inr gz8) nv0)
  have sy71 : h0.size ≤ h54.size := Nat.le_trans sy51 K55.1
  exact Wk.retV C (t := (.object ST)) rfl rfl (Or.inr (Or.inr (Or.inr (Or.inr ⟨rfl, rfl, rfl⟩)))) d1_68 (by decide) (by decide) ⟨b2, n53_n1_n1_b2, rfl, K70, gz8, gz65, ne62, F66, F56, F57, F58, F59, F60⟩
set_option maxRecDepth 65536 in
set_option maxHeartbeats 40000000 in
theorem own_11_11 (l : Launch) (Z : State) (a0 : Array Value) (hw : ∀ d ∈ tables_1, d.before a0 Z = true) (n0 : Nat) (h0 : Heap) (hsz : n0 ≤ h0.size) (o0 : Addr) (o1 : Addr) (x0 : Int32) (x1 : Int32) (x2 : Int32) (x3 : Int32) (P0 : Sta Z h0 ST "COMPACT_STRINGS" "Z" (.int x0)) (P1 : Exa Z h0 o0 "[C") (P2 : Fa Z h0 o0 .char 3 (up (up (up (fun _ => (.int (0 : Int32))) 0 (.int x1)) 1 (.int x2)) 2 (.int x3))) (P3 : Exa Z h0 o1 "[B") (P4 : Fa Z h0 o1 .byte 3 (fun _ => (.int (0 : Int32)))) (N_o0_o1 : o0 ≠ o1) (G_o0 : n0 ≤ o0) (G_o1 : n0 ≤ o1) (lat_x1 : ¬ (255 : Int32) < x1) (lat_x2 : ¬ (255 : Int32) < x2) (lat_x3 : ¬ (255 : Int32) < x3) (nz_x0 : ¬ x0 = (0 : Int32)) :
    Met false l Z n0 (⟨"java/lang/StringUTF16", "compress", "([CI[BII)I"⟩ : MethodName) jdk_52_method_21_code 7 (some .int) ({ frames := 0, cells := 0, slots := 0, locals := 0 } : Room) #[(.ref o0), (.int (0 : Int32)), (.ref o1), (.int (0 : Int32)), (.int (3 : Int32))] h0 (fun v h => v = some (.int (3 : Int32)) ∧ Keep h0 h [o1] ∧ Sta Z h ST "COMPACT_STRINGS" "Z" (.int x0) ∧ Fa Z h o1 .byte 3 (up (up (up (fun _ => (.int (0 : Int32))) 0 (.int (nar .byte (x1.toInt8.toInt32)))) 1 (.int (nar .byte (x2.toInt8.toInt32)))) 2 (.int (nar .byte (x3.toInt8.toInt32))))) := by
  refine Met.of (plainFor_of_name pn_11) #[.val (.ref o0), .val (.int (0 : Int32)), .val (.ref o1), .val (.int (0 : Int32)), .val (.int (3 : Int32)), .unset, .unset] (fun m => by first | (simp [entryFrame, mkF, argsToLocals, Value.category]; done) | rfl) ?_
  intro p e s m below meth c C
  refine Wk.st (g' := (mkF m 1 #[.val (.ref o0), .val (.int (0 : Int32)), .val (.ref o1), .val (.int (0 : Int32)), .val (.int (3 : Int32)), .unset, .unset] [(.int (0 : Int32))])) (fun X t q => XS.iconst X.here C.hx rfl (hb C.hby d11_0) q) ?_
  refine Wk.st (g' := (mkF m 3 #[.val (.ref o0), .val (.int (0 : Int32)), .val (.ref o1), .val (.int (0 : Int32)), .val (.int (3 : Int32)), .val (.int (0 : Int32)), .unset] [])) (fun X t q => XS.istore X.here C.hx rfl (hb C.hby d11_1) rfl (l' := #[.val (.ref o0), .val (.int (0 : Int32)), .val (.ref o1), .val (.int (0 : Int32)), .val (.int (3 : Int32)), .val (.int (0 : Int32)), .unset]) rfl q) ?_
  refine Wk.ildW C d11_3 rfl ?_
  refine Wk.ildW C d11_5 rfl ?_
  refine Wk.icN C d11_7 (XT.ii_ge_f (by decide)) ?_
  refine Wk.ald C d11_10 rfl rfl ?_
  refine Wk.ild C d11_11 rfl ?_
  refine Wk.fLdC C P2 (i := 0) (by decide) (by decide) (by decide) (v := (.int x1)) (by simp [up]) d11_12 ?_
  show Wk _ p l e _ s m _ below meth c n0 _ h0 0 0 (mkF m 13 #[.val (.ref o0), .val (.int (0 : Int32)), .val (.ref o1), .val (.int (0 : Int32)), .val (.int (3 : Int32)), .val (.int (0 : Int32)), .unset] [(.int x1)])
  refine Wk.st (g' := (mkF m 15 #[.val (.ref o0), .val (.int (0 : Int32)), .val (.ref o1), .val (.int (0 : Int32)), .val (.int (3 : Int32)), .val (.int (0 : Int32)), .val (.int x1)] [])) (fun X t q => XS.istore X.here C.hx rfl (hb C.hby d11_13) rfl (l' := #[.val (.ref o0), .val (.int (0 : Int32)), .val (.ref o1), .val (.int (0 : Int32)), .val (.int (3 : Int32)), .val (.int (0 : Int32)), .val (.int x1)]) rfl q) ?_
  refine Wk.ildW C d11_15 rfl ?_
  refine Wk.st (g' := (mkF m 20 #[.val (.ref o0), .val (.int (0 : Int32)), .val (.ref o1), .val (.int (0 : Int32)), .val (.int (3 : Int32)), .val (.int (0 : Int32)), .val (.int x1)] [(.int (255 : Int32)), (.int x1)])) (fun X t q => XS.sipush X.here C.hx rfl (hb C.hby d11_17) q) ?_
  refine Wk.icY C (pc' := 26) d11_20 (XT.ii_le_t lat_x1) (by decide) (by decide) ?_
  refine Wk.ald C d11_26 rfl rfl ?_
  refine Wk.ild C d11_27 rfl ?_
  refine Wk.ildW C d11_28 rfl ?_
  refine Wk.st (g' := (mkF m 31 #[.val (.ref o0), .val (.int (0 : Int32)), .val (.ref o1), .val (.int (0 : Int32)), .val (.int (3 : Int32)), .val (.int (0 : Int32)), .val (.int x1)] [(.int (x1.toInt8.toInt32)), (.int (0 : Int32)), (.ref o1)])) (fun X t q => XS.i2b X.here C.hx rfl (hb C.hby d11_30) rfl q) ?_
  refine Wk.fStB C P4 (x' := (nar .byte (x1.toInt8.toInt32))) rfl (i := 0) (by decide) (by decide) (by decide) G_o1 d11_31 ?_
  intro h1 W2 F3
  have F4 : Sta Z h1 ST "COMPACT_STRINGS" "Z" (.int x0) := P0.wr W2
  have F5 : Exa Z h1 o0 "[C" := P1.wr W2
  have F6 : Fa Z h1 o0 .char 3 (up (up (up (fun _ => (.int (0 : Int32))) 0 (.int x1)) 1 (.int x2)) 2 (.int x3)) := P2.other W2 N_o0_o1
  have F7 : Exa Z h1 o1 "[B" := P3.wr W2
  have sz8 : n0 ≤ h1.size := Nat.le_trans hsz (Nat.le_of_eq W2.size.symm)
  have sy9 : h0.size ≤ h1.size := Nat.le_trans (Nat.le_refl h0.size) (Nat.le_of_eq W2.size.symm)
  have K10 := (Keep.refl h0 [o1]).wr W2 (Or.inl (by simp))
  show Wk _ p l e _ s m _ below meth c n0 _ h1 0 0 (mkF m 32 #[.val (.ref o0), .val (.int (0 : Int32)), .val (.ref o1), .val (.int (0 : Int32)), .val (.int (3 : Int32)), .val (.int (0 : Int32)), .val (.int x1)] [])
  refine Wk.st (g' := (mkF m 35 #[.val (.ref o0), .val (.int (1 : Int32)), .val (.ref o1), .val (.int (0 : Int32)), .val (.int (3 : Int32)), .val (.int (0 : Int32)), .val (.int x1)] [])) (fun X t q => XS.iinc X.here C.hx rfl (hb C.hby d11_32) rfl (l' := #[.val (.ref o0), .val (.int (1 : Int32)), .val (.ref o1), .val (.int (0 : Int32)), .val (.int (3 : Int32)), .val (.int (0 : Int32)), .val (.int x1)]) rfl q) ?_
  refine Wk.st (g' := (mkF m 38 #[.val (.ref o0), .val (.int (1 : Int32)), .val (.ref o1), .val (.int (1 : Int32)), .val (.int (3 : Int32)), .val (.int (0 : Int32)), .val (.int x1)] [])) (fun X t q => XS.iinc X.here C.hx rfl (hb C.hby d11_35) rfl (l' := #[.val (.ref o0), .val (.int (1 : Int32)), .val (.ref o1), .val (.int (1 : Int32)), .val (.int (3 : Int32)), .val (.int (0 : Int32)), .val (.int x1)]) rfl q) ?_
  refine Wk.st (g' := (mkF m 41 #[.val (.ref o0), .val (.int (1 : Int32)), .val (.ref o1), .val (.int (1 : Int32)), .val (.int (3 : Int32)), .val (.int (1 : Int32)), .val (.int x1)] [])) (fun X t q => XS.iinc X.here C.hx rfl (hb C.hby d11_38) rfl (l' := #[.val (.ref o0), .val (.int (1 : Int32)), .val (.ref o1), .val (.int (1 : Int32)), .val (.int (3 : Int32)), .val (.int (1 : Int32)), .val (.int x1)]) rfl q) ?_
  refine Wk.gto C (pc' := 3) d11_41 (by decide) (by decide) ?_
  refine Wk.ildW C d11_3 rfl ?_
  refine Wk.ildW C d11_5 rfl ?_
  refine Wk.icN C d11_7 (XT.ii_ge_f (by decide)) ?_
  refine Wk.ald C d11_10 rfl rfl ?_
  refine Wk.ild C d11_11 rfl ?_
  refine Wk.fLdC C F6 (i := 1) (by decide) (by decide) (by decide) (v := (.int x2)) (by simp [up]) d11_12 ?_
  show Wk _ p l e _ s m _ below meth c n0 _ h1 0 0 (mkF m 13 #[.val (.ref o0), .val (.int (1 : Int32)), .val (.ref o1), .val (.int (1 : Int32)), .val (.int (3 : Int32)), .val (.int (1 : Int32)), .val (.int x1)] [(.int x2)])
  refine Wk.st (g' := (mkF m 15 #[.val (.ref o0), .val (.int (1 : Int32)), .val (.ref o1), .val (.int (1 : Int32)), .val (.int (3 : Int32)), .val (.int (1 : Int32)), .val (.int x2)] [])) (fun X t q => XS.istore X.here C.hx rfl (hb C.hby d11_13) rfl (l' := #[.val (.ref o0), .val (.int (1 : Int32)), .val (.ref o1), .val (.int (1 : Int32)), .val (.int (3 : Int32)), .val (.int (1 : Int32)), .val (.int x2)]) rfl q) ?_
  refine Wk.ildW C d11_15 rfl ?_
  refine Wk.st (g' := (mkF m 20 #[.val (.ref o0), .val (.int (1 : Int32)), .val (.ref o1), .val (.int (1 : Int32)), .val (.int (3 : Int32)), .val (.int (1 : Int32)), .val (.int x2)] [(.int (255 : Int32)), (.int x2)])) (fun X t q => XS.sipush X.here C.hx rfl (hb C.hby d11_17) q) ?_
  refine Wk.icY C (pc' := 26) d11_20 (XT.ii_le_t lat_x2) (by decide) (by decide) ?_
  refine Wk.ald C d11_26 rfl rfl ?_
  refine Wk.ild C d11_27 rfl ?_
  refine Wk.ildW C d11_28 rfl ?_
  refine Wk.st (g' := (mkF m 31 #[.val (.ref o0), .val (.int (1 : Int32)), .val (.ref o1), .val (.int (1 : Int32)), .val (.int (3 : Int32)), .val (.int (1 : Int32)), .val (.int x2)] [(.int (x2.toInt8.toInt32)), (.int (1 : Int32)), (.ref o1)])) (fun X t q => XS.i2b X.here C.hx rfl (hb C.hby d11_30) rfl q) ?_
  refine Wk.fStB C F3 (x' := (nar .byte (x2.toInt8.toInt32))) rfl (i := 1) (by decide) (by decide) (by decide) G_o1 d11_31 ?_
  intro h11 W12 F13
  have F14 : Sta Z h11 ST "COMPACT_STRINGS" "Z" (.int x0) := F4.wr W12
  have F15 : Exa Z h11 o0 "[C" := F5.wr W12
  have F16 : Fa Z h11 o0 .char 3 (up (up (up (fun _ => (.int (0 : Int32))) 0 (.int x1)) 1 (.int x2)) 2 (.int x3)) := F6.other W12 N_o0_o1
  have F17 : Exa Z h11 o1 "[B" := F7.wr W12
  have sz18 : n0 ≤ h11.size := Nat.le_trans sz8 (Nat.le_of_eq W12.size.symm)
  have sy19 : h0.size ≤ h11.size := Nat.le_trans sy9 (Nat.le_of_eq W12.size.symm)
  have K20 := K10.wr W12 (Or.inl (by simp))
  show Wk _ p l e _ s m _ below meth c n0 _ h11 0 0 (mkF m 32 #[.val (.ref o0), .val (.int (1 : Int32)), .val (.ref o1), .val (.int (1 : Int32)), .val (.int (3 : Int32)), .val (.int (1 : Int32)), .val (.int x2)] [])
  refine Wk.st (g' := (mkF m 35 #[.val (.ref o0), .val (.int (2 : Int32)), .val (.ref o1), .val (.int (1 : Int32)), .val (.int (3 : Int32)), .val (.int (1 : Int32)), .val (.int x2)] [])) (fun X t q => XS.iinc X.here C.hx rfl (hb C.hby d11_32) rfl (l' := #[.val (.ref o0), .val (.int (2 : Int32)), .val (.ref o1), .val (.int (1 : Int32)), .val (.int (3 : Int32)), .val (.int (1 : Int32)), .val (.int x2)]) rfl q) ?_
  refine Wk.st (g' := (mkF m 38 #[.val (.ref o0), .val (.int (2 : Int32)), .val (.ref o1), .val (.int (2 : Int32)), .val (.int (3 : Int32)), .val (.int (1 : Int32)), .val (.int x2)] [])) (fun X t q => XS.iinc X.here C.hx rfl (hb C.hby d11_35) rfl (l' := #[.val (.ref o0), .val (.int (2 : Int32)), .val (.ref o1), .val (.int (2 : Int32)), .val (.int (3 : Int32)), .val (.int (1 : Int32)), .val (.int x2)]) rfl q) ?_
  refine Wk.st (g' := (mkF m 41 #[.val (.ref o0), .val (.int (2 : Int32)), .val (.ref o1), .val (.int (2 : Int32)), .val (.int (3 : Int32)), .val (.int (2 : Int32)), .val (.int x2)] [])) (fun X t q => XS.iinc X.here C.hx rfl (hb C.hby d11_38) rfl (l' := #[.val (.ref o0), .val (.int (2 : Int32)), .val (.ref o1), .val (.int (2 : Int32)), .val (.int (3 : Int32)), .val (.int (2 : Int32)), .val (.int x2)]) rfl q) ?_
  refine Wk.gto C (pc' := 3) d11_41 (by decide) (by decide) ?_
  refine Wk.ildW C d11_3 rfl ?_
  refine Wk.ildW C d11_5 rfl ?_
  refine Wk.icN C d11_7 (XT.ii_ge_f (by decide)) ?_
  refine Wk.ald C d11_10 rfl rfl ?_
  refine Wk.ild C d11_11 rfl ?_
  refine Wk.fLdC C F16 (i := 2) (by decide) (by decide) (by decide) (v := (.int x3)) (by simp [up]) d11_12 ?_
  show Wk _ p l e _ s m _ below meth c n0 _ h11 0 0 (mkF m 13 #[.val (.ref o0), .val (.int (2 : Int32)), .val (.ref o1), .val (.int (2 : Int32)), .val (.int (3 : Int32)), .val (.int (2 : Int32)), .val (.int x2)] [(.int x3)])
  refine Wk.st (g' := (mkF m 15 #[.val (.ref o0), .val (.int (2 : Int32)), .val (.ref o1), .val (.int (2 : Int32)), .val (.int (3 : Int32)), .val (.int (2 : Int32)), .val (.int x3)] [])) (fun X t q => XS.istore X.here C.hx rfl (hb C.hby d11_13) rfl (l' := #[.val (.ref o0), .val (.int (2 : Int32)), .val (.ref o1), .val (.int (2 : Int32)), .val (.int (3 : Int32)), .val (.int (2 : Int32)), .val (.int x3)]) rfl q) ?_
  refine Wk.ildW C d11_15 rfl ?_
  refine Wk.st (g' := (mkF m 20 #[.val (.ref o0), .val (.int (2 : Int32)), .val (.ref o1), .val (.int (2 : Int32)), .val (.int (3 : Int32)), .val (.int (2 : Int32)), .val (.int x3)] [(.int (255 : Int32)), (.int x3)])) (fun X t q => XS.sipush X.here C.hx rfl (hb C.hby d11_17) q) ?_
  refine Wk.icY C (pc' := 26) d11_20 (XT.ii_le_t lat_x3) (by decide) (by decide) ?_
  refine Wk.ald C d11_26 rfl rfl ?_
  refine Wk.ild C d11_27 rfl ?_
  refine Wk.ildW C d11_28 rfl ?_
  refine Wk.st (g' := (mkF m 31 #[.val (.ref o0), .val (.int (2 : Int32)), .val (.ref o1), .val (.int (2 : Int32)), .val (.int (3 : Int32)), .val (.int (2 : Int32)), .val (.int x3)] [(.int (x3.toInt8.toInt32)), (.int (2 : Int32)), (.ref o1)])) (fun X t q => XS.i2b X.here C.hx rfl (hb C.hby d11_30) rfl q) ?_
  refine Wk.fStB C F13 (x' := (nar .byte (x3.toInt8.toInt32))) rfl (i := 2) (by decide) (by decide) (by decide) G_o1 d11_31 ?_
  intro h21 W22 F23
  have F24 : Sta Z h21 ST "COMPACT_STRINGS" "Z" (.int x0) := F14.wr W22
  have F25 : Exa Z h21 o0 "[C" := F15.wr W22
  have F26 : Fa Z h21 o0 .char 3 (up (up (up (fun _ => (.int (0 : Int32))) 0 (.int x1)) 1 (.int x2)) 2 (.int x3)) := F16.other W22 N_o0_o1
  have F27 : Exa Z h21 o1 "[B" := F17.wr W22
  have sz28 : n0 ≤ h21.size := Nat.le_trans sz18 (Nat.le_of_eq W22.size.symm)
  have sy29 : h0.size ≤ h21.size := Nat.le_trans sy19 (Nat.le_of_eq W22.size.symm)
  have K30 := K20.wr W22 (Or.inl (by simp))
  show Wk _ p l e _ s m _ below meth c n0 _ h21 0 0 (mkF m 32 #[.val (.ref o0), .val (.int (2 : Int32)), .val (.ref o1), .val (.int (2 : Int32)), .val (.int (3 : Int32)), .val (.int (2 : Int32)), .val (.int x3)] [])
  refine Wk.st (g' := (mkF m 35 #[.val (.ref o0), .val (.int (3 : Int32)), .val (.ref o1), .val (.int (2 : Int32)), .val (.int (3 : Int32)), .val (.int (2 : Int32)), .val (.int x3)] [])) (fun X t q => XS.iinc X.here C.hx rfl (hb C.hby d11_32) rfl (l' := #[.val (.ref o0), .val (.int (3 : Int32)), .val (.ref o1), .val (.int (2 : Int32)), .val (.int (3 : Int32)), .val (.int (2 : Int32)), .val (.int x3)]) rfl q) ?_
  refine Wk.st (g' := (mkF m 38 #[.val (.ref o0), .val (.int (3 : Int32)), .val (.ref o1), .val (.int (3 : Int32)), .val (.int (3 : Int32)), .val (.int (2 : Int32)), .val (.int x3)] [])) (fun X t q => XS.iinc X.here C.hx rfl (hb C.hby d11_35) rfl (l' := #[.val (.ref o0), .val (.int (3 : Int32)), .val (.ref o1), .val (.int (3 : Int32)), .val (.int (3 : Int32)), .val (.int (2 : Int32)), .val (.int x3)]) rfl q) ?_
  refine Wk.st (g' := (mkF m 41 #[.val (.ref o0), .val (.int (3 : Int32)), .val (.ref o1), .val (.int (3 : Int32)), .val (.int (3 : Int32)), .val (.int (3 : Int32)), .val (.int x3)] [])) (fun X t q => XS.iinc X.here C.hx rfl (hb C.hby d11_38) rfl (l' := #[.val (.ref o0), .val (.int (3 : Int32)), .val (.ref o1), .val (.int (3 : Int32)), .val (.int (3 : Int32)), .val (.int (3 : Int32)), .val (.int x3)]) rfl q) ?_
  refine Wk.gto C (pc' := 3) d11_41 (by decide) (by decide) ?_
  refine Wk.ildW C d11_3 rfl ?_
  refine Wk.ildW C d11_5 rfl ?_
  refine Wk.icY C (pc' := 44) d11_7 (XT.ii_ge_t (by decide)) (by decide) (by decide) ?_
  refine Wk.ildW C d11_44 rfl ?_
  exact Wk.retV C (t := .int) rfl rfl (Or.inl ⟨rfl, by simp, _, rfl⟩) d11_46 (by decide) (by decide) ⟨rfl, K30, F24, F23⟩
set_option maxRecDepth 65536 in
set_option maxHeartbeats 40000000 in
theorem own_10_11 (l : Launch) (Z : State) (a0 : Array Value) (hw : ∀ d ∈ tables_1, d.before a0 Z = true) (n0 : Nat) (h0 : Heap) (hsz : n0 ≤ h0.size) (o0 : Addr) (x0 : Int32) (x1 : Int32) (x2 : Int32) (x3 : Int32) (P0 : Sta Z h0 ST "COMPACT_STRINGS" "Z" (.int x0)) (P1 : Exa Z h0 o0 "[C") (P2 : Fa Z h0 o0 .char 3 (up (up (up (fun _ => (.int (0 : Int32))) 0 (.int x1)) 1 (.int x2)) 2 (.int x3))) (G_o0 : n0 ≤ o0) (lat_x1 : ¬ (255 : Int32) < x1) (lat_x2 : ¬ (255 : Int32) < x2) (lat_x3 : ¬ (255 : Int32) < x3) (nz_x0 : ¬ x0 = (0 : Int32)) :
    Met false l Z n0 (⟨"java/lang/StringUTF16", "compress", "([CII)[B"⟩ : MethodName) jdk_52_method_16_code 6 (some (.array .byte)) ({ frames := 1, cells := 1, slots := 3, locals := 18 } : Room) #[(.ref o0), (.int (0 : Int32)), (.int (3 : Int32))] h0 (fun v h => ∃ b2 : Addr, v = some (.ref b2) ∧ Keep h0 h [] ∧ h0.size ≤ b2 ∧ Exa Z h b2 "[B" ∧ Sta Z h ST "COMPACT_STRINGS" "Z" (.int x0) ∧ Fa Z h b2 .byte 3 (up (up (up (fun _ => (.int (0 : Int32))) 0 (.int (nar .byte (x1.toInt8.toInt32)))) 1 (.int (nar .byte (x2.toInt8.toInt32)))) 2 (.int (nar .byte (x3.toInt8.toInt32))))) := by
  refine Met.of (plainFor_of_name pn_11) #[.val (.ref o0), .val (.int (0 : Int32)), .val (.int (3 : Int32)), .unset, .unset, .unset] (fun m => by first | (simp [entryFrame, mkF, argsToLocals, Value.category]; done) | rfl) ?_
  intro p e s m below meth c C
  refine Wk.ild C d10_0 rfl ?_
  refine Wk.fNewP C (wd hw 7) (ty := .byte) (dv := (.int (0 : Int32))) (N := 3) (ad := "[B") rfl rfl (by decide) (by decide) (by decide) (cap := 3) (by decide) (by decide) d10_1 (by decide) (by decide) ?_
  intro h1 b2 g3 E4 A5 F6
  have ne7 : o0 ≠ b2 := Nat.ne_of_lt (Nat.lt_of_lt_of_le P1.lt (Nat.le_of_eq g3.symm))
  have ge8 : n0 ≤ b2 := Nat.le_trans hsz (Nat.le_of_eq g3.symm)
  have gz9 : h0.size ≤ b2 := Nat.le_trans (Nat.le_refl h0.size) (Nat.le_of_eq g3.symm)
  have F10 : Sta Z h1 ST "COMPACT_STRINGS" "Z" (.int x0) := P0.ext E4
  have F11 : Exa Z h1 o0 "[C" := P1.ext E4
  have F12 : Fa Z h1 o0 .char 3 (up (up (up (fun _ => (.int (0 : Int32))) 0 (.int x1)) 1 (.int x2)) 2 (.int x3)) := P2.ext E4
  have sz13 : n0 ≤ h1.size := Nat.le_trans hsz E4.1
  have sy14 : h0.size ≤ h1.size := Nat.le_trans (Nat.le_refl h0.size) E4.1
  have K15 := (Keep.refl h0 []).ext E4
  show Wk _ p l e _ s m _ below meth c n0 _ h1 1 3 (mkF m 3 #[.val (.ref o0), .val (.int (0 : Int32)), .val (.int (3 : Int32)), .unset, .unset, .unset] [(.ref b2)])
  refine Wk.st (g' := (mkF m 4 #[.val (.ref o0), .val (.int (0 : Int32)), .val (.int (3 : Int32)), .val (.ref b2), .unset, .unset] [])) (fun X t q => XS.astoreN X.here C.hx rfl (hb C.hby d10_3) rfl rfl (l' := #[.val (.ref o0), .val (.int (0 : Int32)), .val (.int (3 : Int32)), .val (.ref b2), .unset, .unset]) rfl q) ?_
  refine Wk.ald C d10_4 rfl rfl ?_
  refine Wk.ild C d10_5 rfl ?_
  refine Wk.ald C d10_6 rfl rfl ?_
  refine Wk.st (g' := (mkF m 8 #[.val (.ref o0), .val (.int (0 : Int32)), .val (.int (3 : Int32)), .val (.ref b2), .unset, .unset] [(.int (0 : Int32)), (.ref b2), (.int (0 : Int32)), (.ref o0)])) (fun X t q => XS.iconst X.here C.hx rfl (hb C.hby d10_7) q) ?_
  refine Wk.ild C d10_8 rfl ?_
  refine Wk.callS C (z := (⟨"java/lang/StringUTF16", "compress", "([CI[BII)I"⟩ : MethodName)) (wd hw 71) (wd hw 72) (wd hw 69) (wd hw 73) (by decide) (own_11_11 l Z a0 hw n0 h1 sz13 o0 b2 x0 x1 x2 x3 F10 F11 F12 A5 F6 ne7 G_o0 ge8 lat_x1 lat_x2 lat_x3 nz_x0) (w := 0) (by decide) (by decide) pd_38 rfl (rest := []) rfl rfl (Nat.le_of_eq rfl) (by decide) (by decide) d10_9 ?_
  rintro _ h17 ⟨rfl, K18, F19, F20⟩
  show Wk _ p l e _ s m _ below meth c n0 _ h17 1 3 (mkF m 12 #[.val (.ref o0), .val (.int (0 : Int32)), .val (.int (3 : Int32)), .val (.ref b2), .unset, .unset] [(.int (3 : Int32))])
  have F21 : Exa Z h17 o0 "[C" := F11.keep K18
  have F22 : Fa Z h17 o0 .char 3 (up (up (up (fun _ => (.int (0 : Int32))) 0 (.int x1)) 1 (.int x2)) 2 (.int x3)) := F12.keep K18 (nmS ne7 nm0)
  have F23 : Exa Z h17 b2 "[B" := A5.keep K18
  have sz24 : n0 ≤ h17.size := Nat.le_trans sz13 K18.1
  have K25 := K15.trans K18 (nvS (Or.inr gz9) nv0)
  have sy26 : h0.size ≤ h17.size := Nat.le_trans sy14 K18.1
  refine Wk.st (g' := (mkF m 14 #[.val (.ref o0), .val (.int (0 : Int32)), .val (.int (3 : Int32)), .val (.ref b2), .val (.int (3 : Int32)), .unset] [])) (fun X t q => XS.istore X.here C.hx rfl (hb C.hby d10_12) rfl (l' := #[.val (.ref o0), .val (.int (0 : Int32)), .val (.int (3 : Int32)), .val (.ref b2), .val (.int (3 : Int32)), .unset]) rfl q) ?_
  refine Wk.ildW C d10_14 rfl ?_
  refine Wk.ild C d10_16 rfl ?_
  refine Wk.icY C (pc' := 57) d10_17 (XT.ii_eq_t (by decide)) (by decide) (by decide) ?_
  refine Wk.ald C d10_57 rfl rfl ?_
  exact Wk.retV C (t := (.array .byte)) rfl rfl (Or.inr (Or.inr (Or.inr (Or.inr ⟨rfl, rfl, rfl⟩)))) d10_58 (by decide) (by decide) ⟨b2, rfl, K25, gz9, F23, F19, F20⟩
set_option maxRecDepth 65536 in
set_option maxHeartbeats 40000000 in
theorem own_12_13 (l : Launch) (Z : State) (a0 : Array Value) (hw : ∀ d ∈ tables_1, d.before a0 Z = true) (n0 : Nat) (h0 : Heap) (hsz : n0 ≤ h0.size) (o0 : Addr) (x0 : Int32) (x1 : Int32) (x2 : Int32) (x3 : Int32) (P0 : Exa Z h0 o0 "[B") (P1 : Sta Z h0 ST "COMPACT_STRINGS" "Z" (.int x0)) (P2 : Fa Z h0 o0 .byte 3 (up (up (up (fun _ => (.int (0 : Int32))) 0 (.int x1)) 1 (.int x2)) 2 (.int x3))) (G_o0 : n0 ≤ o0) (nz_x0 : ¬ x0 = (0 : Int32)) :
    Met false l Z n0 (⟨"java/lang/StringUTF16", "coderFromArrayLen", "([BI)B"⟩ : MethodName) jdk_52_method_15_code 2 (some .byte) ({ frames := 0, cells := 0, slots := 0, locals := 0 } : Room) #[(.ref o0), (.int (3 : Int32))] h0 (fun v h => v = some (.int (0 : Int32)) ∧ h0 = h) := by
  refine Met.of (plainFor_of_name pn_11) #[.val (.ref o0), .val (.int (3 : Int32))] (fun m => by first | (simp [entryFrame, mkF, argsToLocals, Value.category]; done) | rfl) ?_
  intro p e s m below meth c C
  refine Wk.ild C d12_0 rfl ?_
  refine Wk.ald C d12_1 rfl rfl ?_
  refine Wk.fLen C P2 (z := (3 : Int32)) (by decide) d12_2 ?_
  show Wk _ p l e _ s m _ below meth c n0 _ h0 0 0 (mkF m 3 #[.val (.ref o0), .val (.int (3 : Int32))] [(.int (3 : Int32)), (.int (3 : Int32))])
  refine Wk.st (g' := (mkF m 4 #[.val (.ref o0), .val (.int (3 : Int32))] [(.int (0 : Int32))])) (fun X t q => XS.isub X.here C.hx rfl (hb C.hby d12_3) rfl q) ?_
  refine Wk.st (g' := (mkF m 6 #[.val (.ref o0), .val (.int (3 : Int32))] [(.int (31 : Int32)), (.int (0 : Int32))])) (fun X t q => XS.bipush X.here C.hx rfl (hb C.hby d12_4) q) ?_
  refine Wk.st (g' := (mkF m 7 #[.val (.ref o0), .val (.int (3 : Int32))] [(.int (0 : Int32))])) (fun X t q => XS.iushr X.here C.hx rfl (hb C.hby d12_6) rfl q) ?_
  refine Wk.st (g' := (mkF m 8 #[.val (.ref o0), .val (.int (3 : Int32))] [(.int (0 : Int32))])) (fun X t q => XS.i2b X.here C.hx rfl (hb C.hby d12_7) rfl q) ?_
  exact Wk.retV C (t := .byte) rfl rfl (Or.inl ⟨rfl, by simp, _, rfl⟩) d12_8 (by decide) (by decide) ⟨rfl, rfl⟩
set_option maxRecDepth 65536 in
set_option maxHeartbeats 40000000 in
theorem own_9_11 (l : Launch) (Z : State) (a0 : Array Value) (hw : ∀ d ∈ tables_1, d.before a0 Z = true) (n0 : Nat) (h0 : Heap) (hsz : n0 ≤ h0.size) (o0 : Addr) (o1 : Addr) (x0 : Int32) (x1 : Int32) (x2 : Int32) (x3 : Int32) (P0 : Sta Z h0 ST "COMPACT_STRINGS" "Z" (.int x0)) (P1 : Exa Z h0 o0 ST) (P2 : Fld Z h0 o0 ST "value" "[B" .null) (P3 : Fld Z h0 o0 ST "coder" "B" (.int (0 : Int32))) (P4 : Exa Z h0 o1 "[C") (P5 : Fa Z h0 o1 .char 3 (up (up (up (fun _ => (.int (0 : Int32))) 0 (.int x1)) 1 (.int x2)) 2 (.int x3))) (N_o0_o1 : o0 ≠ o1) (G_o0 : n0 ≤ o0) (G_o1 : n0 ≤ o1) (lat_x1 : ¬ (255 : Int32) < x1) (lat_x2 : ¬ (255 : Int32) < x2) (lat_x3 : ¬ (255 : Int32) < x3) (nz_x0 : ¬ x0 = (0 : Int32)) :
    Met false l Z n0 (⟨ST, "<init>", "([CIILjava/lang/Void;)V"⟩ : MethodName) jdk_42_method_149_code 6 none ({ frames := 2, cells := 1, slots := 3, locals := 35 } : Room) #[(.ref o0), (.ref o1), (.int (0 : Int32)), (.int (3 : Int32)), .null] h0 (fun v h => ∃ n1_b2 : Addr, v = none ∧ Keep h0 h [o0] ∧ h0.size ≤ n1_b2 ∧ Exa Z h n1_b2 "[B" ∧ Sta Z h ST "COMPACT_STRINGS" "Z" (.int x0) ∧ Fa Z h n1_b2 .byte 3 (up (up (up (fun _ => (.int (0 : Int32))) 0 (.int (nar .byte (x1.toInt8.toInt32)))) 1 (.int (nar .byte (x2.toInt8.toInt32)))) 2 (.int (nar .byte (x3.toInt8.toInt32)))) ∧ Fld Z h o0 ST "coder" "B" (.int (0 : Int32)) ∧ Fld Z h o0 ST "value" "[B" (.ref n1_b2)) := by
  refine Met.of (plainFor_of_name pn_0) #[.val (.ref o0), .val (.ref o1), .val (.int (0 : Int32)), .val (.int (3 : Int32)), .val .null, .unset] (fun m => by first | (simp [entryFrame, mkF, argsToLocals, Value.category]; done) | rfl) ?_
  intro p e s m below meth c C
  refine Wk.ald C d9_0 rfl rfl ?_
  refine Wk.initO C (wd hw 65) (wd hw 19) (wd hw 20) (w := 0) rfl d9_1 (by decide) (Nat.le_of_eq rfl) (by decide) ?_
  show Wk _ p l e _ s m _ below meth c n0 _ h0 0 0 (mkF m 4 #[.val (.ref o0), .val (.ref o1), .val (.int (0 : Int32)), .val (.int (3 : Int32)), .val .null, .unset] [])
  refine Wk.ild C d9_4 rfl ?_
  refine Wk.ifY C (pc' := 27) d9_5 (XT.i0_ne_t (by decide)) (by decide) (by decide) ?_
  refine Wk.getS C (wd hw 66) P0 d9_27 ?_
  show Wk _ p l e _ s m _ below meth c n0 _ h0 0 0 (mkF m 30 #[.val (.ref o0), .val (.ref o1), .val (.int (0 : Int32)), .val (.int (3 : Int32)), .val .null, .unset] [(.int x0)])
  refine Wk.ifN C d9_30 (XT.i0_eq_f nz_x0) ?_
  refine Wk.ald C d9_33 rfl rfl ?_
  refine Wk.ild C d9_34 rfl ?_
  refine Wk.ild C d9_35 rfl ?_
  refine Wk.callS C (z := (⟨"java/lang/StringUTF16", "compress", "([CII)[B"⟩ : MethodName)) (wd hw 67) (wd hw 68) (wd hw 69) (wd hw 70) (by decide) (own_10_11 l Z a0 hw n0 h0 hsz o1 x0 x1 x2 x3 P0 P4 P5  G_o1 lat_x1 lat_x2 lat_x3 nz_x0) (w := 0) (by decide) (by decide) pd_37 rfl (rest := []) rfl rfl (Nat.le_of_eq rfl) (by decide) (by decide) d9_36 ?_
  rintro _ h2 ⟨n1_b2, rfl, K3, gn7, F4, F5, F6⟩
  show Wk _ p l e _ s m _ below meth c n0 _ h2 1 3 (mkF m 39 #[.val (.ref o0), .val (.ref o1), .val (.int (0 : Int32)), .val (.int (3 : Int32)), .val .null, .unset] [(.ref n1_b2)])
  have ne8 : o0 ≠ n1_b2 := Nat.ne_of_lt (Nat.lt_of_lt_of_le P1.lt gn7)
  have ne9 : o1 ≠ n1_b2 := Nat.ne_of_lt (Nat.lt_of_lt_of_le P4.lt gn7)
  have ge10 : n0 ≤ n1_b2 := Nat.le_trans hsz gn7
  have gz11 : h0.size ≤ n1_b2 := Nat.le_trans (Nat.le_refl h0.size) gn7
  have F12 : Exa Z h2 o0 ST := P1.keep K3
  have F13 : Fld Z h2 o0 ST "value" "[B" .null := P2.keep K3 nm0
  have F14 : Fld Z h2 o0 ST "coder" "B" (.int (0 : Int32)) := P3.keep K3 nm0
  have F15 : Exa Z h2 o1 "[C" := P4.keep K3
  have F16 : Fa Z h2 o1 .char 3 (up (up (up (fun _ => (.int (0 : Int32))) 0 (.int x1)) 1 (.int x2)) 2 (.int x3)) := P5.keep K3 nm0
  have sz17 : n0 ≤ h2.size := Nat.le_trans hsz K3.1
  have K18 := (Keep.refl h0 [o0]).trans K3 nv0
  have sy19 : h0.size ≤ h2.size := Nat.le_trans (Nat.le_refl h0.size) K3.1
  refine Wk.st (g' := (mkF m 41 #[.val (.ref o0), .val (.ref o1), .val (.int (0 : Int32)), .val (.int (3 : Int32)), .val .null, .val (.ref n1_b2)] [])) (fun X t q => XS.astore X.here C.hx rfl (hb C.hby d9_39) rfl rfl (l' := #[.val (.ref o0), .val (.ref o1), .val (.int (0 : Int32)), .val (.int (3 : Int32)), .val .null, .val (.ref n1_b2)]) rfl q) ?_
  refine Wk.ald C d9_41 rfl rfl ?_
  refine Wk.aldW C d9_42 rfl rfl ?_
  refine Wk.ild C d9_44 rfl ?_
  refine Wk.callS C (z := (⟨"java/lang/StringUTF16", "coderFromArrayLen", "([BI)B"⟩ : MethodName)) (wd hw 74) (wd hw 75) (wd hw 69) (wd hw 76) (by decide) (own_12_13 l Z a0 hw n0 h2 sz17 n1_b2 x0 (nar .byte (x1.toInt8.toInt32)) (nar .byte (x2.toInt8.toInt32)) (nar .byte (x3.toInt8.toInt32)) F4 F5 F6  ge10 nz_x0) (w := 1) (by decide) (by decide) pd_39 rfl (rest := [(.ref o0)]) rfl rfl (Nat.le_of_eq rfl) (by decide) (by decide) d9_45 ?_
  rintro _ _ ⟨rfl, rfl⟩
  show Wk _ p l e _ s m _ below meth c n0 _ h2 1 3 (mkF m 48 #[.val (.ref o0), .val (.ref o1), .val (.int (0 : Int32)), .val (.int (3 : Int32)), .val .null, .val (.ref n1_b2)] [(.int (0 : Int32)), (.ref o0)])
  refine Wk.putF C (wd hw 77) Via.refl F14 F12 (Or.inr ⟨(wd hw 9), rfl, rfl⟩) (wd hw 6) (ty := .byte) (by decide) (v' := (.int (0 : Int32))) rfl (by decide) G_o0 d9_48 ?_
  intro h23 W24
  have F25 : Fld Z h23 o0 ST "coder" "B" (.int (0 : Int32)) := F14.same W24
  have F26 : Exa Z h23 o0 ST := F12.wr W24
  have F27 : Fld Z h23 o0 ST "value" "[B" .null := F13.other W24 (Or.inr (slot_ne (Or.inr (wd hw 8)) (Or.inr (wd hw 9)) (by decide) (t := (.array .byte)) (t' := .byte) (by decide) (by decide)))
  have F28 : Exa Z h23 o1 "[C" := F15.wr W24
  have F29 : Fa Z h23 o1 .char 3 (up (up (up (fun _ => (.int (0 : Int32))) 0 (.int x1)) 1 (.int x2)) 2 (.int x3)) := F16.other W24 (Ne.symm N_o0_o1)
  have F30 : Exa Z h23 n1_b2 "[B" := F4.wr W24
  have F31 : Sta Z h23 ST "COMPACT_STRINGS" "Z" (.int x0) := F5.wr W24
  have F32 : Fa Z h23 n1_b2 .byte 3 (up (up (up (fun _ => (.int (0 : Int32))) 0 (.int (nar .byte (x1.toInt8.toInt32)))) 1 (.int (nar .byte (x2.toInt8.toInt32)))) 2 (.int (nar .byte (x3.toInt8.toInt32)))) := F6.other W24 (Ne.symm ne8)
  have sz33 : n0 ≤ h23.size := Nat.le_trans sz17 (Nat.le_of_eq W24.size.symm)
  have sy34 : h0.size ≤ h23.size := Nat.le_trans sy19 (Nat.le_of_eq W24.size.symm)
  have K35 := K18.wr W24 (Or.inl (by simp))
  show Wk _ p l e _ s m _ below meth c n0 _ h23 1 3 (mkF m 51 #[.val (.ref o0), .val (.ref o1), .val (.int (0 : Int32)), .val (.int (3 : Int32)), .val .null, .val (.ref n1_b2)] [])
  refine Wk.ald C d9_51 rfl rfl ?_
  refine Wk.aldW C d9_52 rfl rfl ?_
  refine Wk.putF C (wd hw 78) Via.refl F27 F26 (Or.inr ⟨(wd hw 8), rfl, rfl⟩) (wd hw 6) (ty := (.array .byte)) (by decide) (v' := (.ref n1_b2)) rfl rfl G_o0 d9_54 ?_
  intro h36 W37
  have F38 : Fld Z h36 o0 ST "value" "[B" (.ref n1_b2) := F27.same W37
  have F39 : Exa Z h36 o0 ST := F26.wr W37
  have F40 : Exa Z h36 o1 "[C" := F28.wr W37
  have F41 : Fa Z h36 o1 .char 3 (up (up (up (fun _ => (.int (0 : Int32))) 0 (.int x1)) 1 (.int x2)) 2 (.int x3)) := F29.other W37 (Ne.symm N_o0_o1)
  have F42 : Exa Z h36 n1_b2 "[B" := F30.wr W37
  have F43 : Sta Z h36 ST "COMPACT_STRINGS" "Z" (.int x0) := F31.wr W37
  have F44 : Fa Z h36 n1_b2 .byte 3 (up (up (up (fun _ => (.int (0 : Int32))) 0 (.int (nar .byte (x1.toInt8.toInt32)))) 1 (.int (nar .byte (x2.toInt8.toInt32)))) 2 (.int (nar .byte (x3.toInt8.toInt32)))) := F32.other W37 (Ne.symm ne8)
  have F45 : Fld Z h36 o0 ST "coder" "B" (.int (0 : Int32)) := F25.other W37 (Or.inr (slot_ne (Or.inr (wd hw 9)) (Or.inr (wd hw 8)) (by decide) (t := .byte) (t' := (.array .byte)) (by decide) (by decide)))
  have sz46 : n0 ≤ h36.size := Nat.le_trans sz33 (Nat.le_of_eq W37.size.symm)
  have sy47 : h0.size ≤ h36.size := Nat.le_trans sy34 (Nat.le_of_eq W37.size.symm)
  have K48 := K35.wr W37 (Or.inl (by simp))
  show Wk _ p l e _ s m _ below meth c n0 _ h36 1 3 (mkF m 57 #[.val (.ref o0), .val (.ref o1), .val (.int (0 : Int32)), .val (.int (3 : Int32)), .val .null, .val (.ref n1_b2)] [])
  exact Wk.retN0 C rfl d9_57 (by decide) (by decide) ⟨n1_b2, rfl, K48, gz11, F42, F43, F44, F45, F38⟩
set_option maxRecDepth 65536 in
set_option maxHeartbeats 40000000 in
theorem own_8_11 (l : Launch) (Z : State) (a0 : Array Value) (hw : ∀ d ∈ tables_1, d.before a0 Z = true) (n0 : Nat) (h0 : Heap) (hsz : n0 ≤ h0.size) (o0 : Addr) (o1 : Addr) (x0 : Int32) (x1 : Int32) (x2 : Int32) (x3 : Int32) (P0 : Sta Z h0 ST "COMPACT_STRINGS" "Z" (.int x0)) (P1 : Exa Z h0 o0 ST) (P2 : Fld Z h0 o0 ST "value" "[B" .null) (P3 : Fld Z h0 o0 ST "coder" "B" (.int (0 : Int32))) (P4 : Exa Z h0 o1 "[C") (P5 : Fa Z h0 o1 .char 3 (up (up (up (fun _ => (.int (0 : Int32))) 0 (.int x1)) 1 (.int x2)) 2 (.int x3))) (N_o0_o1 : o0 ≠ o1) (G_o0 : n0 ≤ o0) (G_o1 : n0 ≤ o1) (lat_x1 : ¬ (255 : Int32) < x1) (lat_x2 : ¬ (255 : Int32) < x2) (lat_x3 : ¬ (255 : Int32) < x3) (nz_x0 : ¬ x0 = (0 : Int32)) :
    Met false l Z n0 (⟨ST, "<init>", "([C)V"⟩ : MethodName) jdk_42_method_3_code 2 none ({ frames := 3, cells := 1, slots := 3, locals := 52 } : Room) #[(.ref o0), (.ref o1)] h0 (fun v h => ∃ n1_n1_b2 : Addr, v = none ∧ Keep h0 h [o0] ∧ h0.size ≤ n1_n1_b2 ∧ Exa Z h n1_n1_b2 "[B" ∧ Sta Z h ST "COMPACT_STRINGS" "Z" (.int x0) ∧ Fa Z h n1_n1_b2 .byte 3 (up (up (up (fun _ => (.int (0 : Int32))) 0 (.int (nar .byte (x1.toInt8.toInt32)))) 1 (.int (nar .byte (x2.toInt8.toInt32)))) 2 (.int (nar .byte (x3.toInt8.toInt32)))) ∧ Fld Z h o0 ST "coder" "B" (.int (0 : Int32)) ∧ Fld Z h o0 ST "value" "[B" (.ref n1_n1_b2)) := by
  refine Met.of (plainFor_of_name pn_0) #[.val (.ref o0), .val (.ref o1)] (fun m => by first | (simp [entryFrame, mkF, argsToLocals, Value.category]; done) | rfl) ?_
  intro p e s m below meth c C
  refine Wk.ald C d8_0 rfl rfl ?_
  refine Wk.ald C d8_1 rfl rfl ?_
  refine Wk.st (g' := (mkF m 3 #[.val (.ref o0), .val (.ref o1)] [(.int (0 : Int32)), (.ref o1), (.ref o0)])) (fun X t q => XS.iconst X.here C.hx rfl (hb C.hby d8_2) q) ?_
  refine Wk.ald C d8_3 rfl rfl ?_
  refine Wk.fLen C P5 (z := (3 : Int32)) (by decide) d8_4 ?_
  show Wk _ p l e _ s m _ below meth c n0 _ h0 0 0 (mkF m 5 #[.val (.ref o0), .val (.ref o1)] [(.int (3 : Int32)), (.int (0 : Int32)), (.ref o1), (.ref o0)])
  refine Wk.st (g' := (mkF m 6 #[.val (.ref o0), .val (.ref o1)] [.null, (.int (3 : Int32)), (.int (0 : Int32)), (.ref o1), (.ref o0)])) (fun X t q => XS.aconstNull X.here C.hx rfl (hb C.hby d8_5) q) ?_
  refine Wk.callI C (z := (⟨ST, "<init>", "([CIILjava/lang/Void;)V"⟩ : MethodName)) rfl (wd hw 61) (wd hw 62) (wd hw 5) (wd hw 64) (by decide) (own_9_11 l Z a0 hw n0 h0 hsz o0 o1 x0 x1 x2 x3 P0 P1 P2 P3 P4 P5 N_o0_o1 G_o0 G_o1 lat_x1 lat_x2 lat_x3 nz_x0) (w := 0) (by decide) (by decide) pd_36 rfl (rest := []) rfl rfl (Nat.le_of_eq rfl) (by decide) (by decide) d8_6 ?_
  rintro _ h2 ⟨n1_n1_b2, rfl, K3, gn9, F4, F5, F6, F7, F8⟩
  show Wk _ p l e _ s m _ below meth c n0 _ h2 1 3 (mkF m 9 #[.val (.ref o0), .val (.ref o1)] [])
  have ne10 : o0 ≠ n1_n1_b2 := Nat.ne_of_lt (Nat.lt_of_lt_of_le P1.lt gn9)
  have ne11 : o1 ≠ n1_n1_b2 := Nat.ne_of_lt (Nat.lt_of_lt_of_le P4.lt gn9)
  have ge12 : n0 ≤ n1_n1_b2 := Nat.le_trans hsz gn9
  have gz13 : h0.size ≤ n1_n1_b2 := Nat.le_trans (Nat.le_refl h0.size) gn9
  have F14 : Exa Z h2 o0 ST := P1.keep K3
  have F15 : Exa Z h2 o1 "[C" := P4.keep K3
  have F16 : Fa Z h2 o1 .char 3 (up (up (up (fun _ => (.int (0 : Int32))) 0 (.int x1)) 1 (.int x2)) 2 (.int x3)) := P5.keep K3 (nmS (Ne.symm N_o0_o1) nm0)
  have sz17 : n0 ≤ h2.size := Nat.le_trans hsz K3.1
  have K18 := (Keep.refl h0 [o0]).trans K3 (nvS (Or.inl (by simp)) nv0)
  have sy19 : h0.size ≤ h2.size := Nat.le_trans (Nat.le_refl h0.size) K3.1
  exact Wk.retN0 C rfl d8_9 (by decide) (by decide) ⟨n1_n1_b2, rfl, K18, gz13, F4, F5, F6, F7, F8⟩
set_option maxRecDepth 65536 in
set_option maxHeartbeats 40000000 in
theorem own_1_11 (l : Launch) (Z : State) (a0 : Array Value) (hw : ∀ d ∈ tables_1, d.before a0 Z = true) (n0 : Nat) (h0 : Heap) (hsz : n0 ≤ h0.size) (x0 : Int32) (x1 : Int32) (P0 : Sta Z h0 ST "COMPACT_STRINGS" "Z" (.int x1)) (nz_x1 : ¬ x1 = (0 : Int32)) :
    Met false l Z n0 (⟨"com/example/amendatory/amendatory/BuilderClearPinLaw", "para", "(II)Ljava/lang/String;"⟩ : MethodName) method_4_code 5 (some (.object ST)) ({ frames := 4, cells := 3, slots := 10, locals := 66 } : Room) #[(.int (3 : Int32)), (.int x0)] h0 (fun v h => ∃ b2 : Addr, ∃ n64_n1_n1_b2 : Addr, v = some (.ref b2) ∧ Keep h0 h [] ∧ h0.size ≤ b2 ∧ h0.size ≤ n64_n1_n1_b2 ∧ b2 ≠ n64_n1_n1_b2 ∧ Exa Z h b2 ST ∧ Exa Z h n64_n1_n1_b2 "[B" ∧ Sta Z h ST "COMPACT_STRINGS" "Z" (.int x1) ∧ Fa Z h n64_n1_n1_b2 .byte 3 (up (up (up (fun _ => (.int (0 : Int32))) 0 (.int (nar .byte ((nar .char ((x0 &&& (255 : Int32)).toUInt32.toUInt16.toUInt32.toInt32)).toInt8.toInt32)))) 1 (.int (nar .byte ((nar .char ((((x0.toUInt32 >>> ((8 : Int32) &&& 31).toUInt32).toInt32) &&& (255 : Int32)).toUInt32.toUInt16.toUInt32.toInt32)).toInt8.toInt32)))) 2 (.int (nar .byte ((nar .char ((((x0.toUInt32 >>> ((16 : Int32) &&& 31).toUInt32).toInt32) &&& (255 : Int32)).toUInt32.toUInt16.toUInt32.toInt32)).toInt8.toInt32)))) ∧ Fld Z h b2 ST "coder" "B" (.int (0 : Int32)) ∧ Fld Z h b2 ST "value" "[B" (.ref n64_n1_n1_b2)) := by
  refine Met.of (plainFor_of_name pn_10) #[.val (.int (3 : Int32)), .val (.int x0), .unset, .unset, .unset] (fun m => by first | (simp [entryFrame, mkF, argsToLocals, Value.category]; done) | rfl) ?_
  intro p e s m below meth c C
  refine Wk.ild C d1_0 rfl ?_
  refine Wk.st (g' := (mkF m 4 #[.val (.int (3 : Int32)), .val (.int x0), .unset, .unset, .unset] [(.int (255 : Int32)), (.int x0)])) (fun X t q => XS.sipush X.here C.hx rfl (hb C.hby d1_1) q) ?_
  refine Wk.st (g' := (mkF m 5 #[.val (.int (3 : Int32)), .val (.int x0), .unset, .unset, .unset] [(.int (x0 &&& (255 : Int32)))])) (fun X t q => XS.iand X.here C.hx rfl (hb C.hby d1_4) rfl q) ?_
  refine Wk.st (g' := (mkF m 6 #[.val (.int (3 : Int32)), .val (.int x0), .unset, .unset, .unset] [(.int ((x0 &&& (255 : Int32)).toUInt32.toUInt16.toUInt32.toInt32))])) (fun X t q => XS.i2c X.here C.hx rfl (hb C.hby d1_5) rfl q) ?_
  refine Wk.st (g' := (mkF m 7 #[.val (.int (3 : Int32)), .val (.int x0), .val (.int ((x0 &&& (255 : Int32)).toUInt32.toUInt16.toUInt32.toInt32)), .unset, .unset] [])) (fun X t q => XS.istoreN X.here C.hx rfl (hb C.hby d1_6) rfl (l' := #[.val (.int (3 : Int32)), .val (.int x0), .val (.int ((x0 &&& (255 : Int32)).toUInt32.toUInt16.toUInt32.toInt32)), .unset, .unset]) rfl q) ?_
  refine Wk.ild C d1_7 rfl ?_
  refine Wk.st (g' := (mkF m 10 #[.val (.int (3 : Int32)), .val (.int x0), .val (.int ((x0 &&& (255 : Int32)).toUInt32.toUInt16.toUInt32.toInt32)), .unset, .unset] [(.int (8 : Int32)), (.int x0)])) (fun X t q => XS.bipush X.here C.hx rfl (hb C.hby d1_8) q) ?_
  refine Wk.st (g' := (mkF m 11 #[.val (.int (3 : Int32)), .val (.int x0), .val (.int ((x0 &&& (255 : Int32)).toUInt32.toUInt16.toUInt32.toInt32)), .unset, .unset] [(.int ((x0.toUInt32 >>> ((8 : Int32) &&& 31).toUInt32).toInt32))])) (fun X t q => XS.iushr X.here C.hx rfl (hb C.hby d1_10) rfl q) ?_
  refine Wk.st (g' := (mkF m 14 #[.val (.int (3 : Int32)), .val (.int x0), .val (.int ((x0 &&& (255 : Int32)).toUInt32.toUInt16.toUInt32.toInt32)), .unset, .unset] [(.int (255 : Int32)), (.int ((x0.toUInt32 >>> ((8 : Int32) &&& 31).toUInt32).toInt32))])) (fun X t q => XS.sipush X.here C.hx rfl (hb C.hby d1_11) q) ?_
  refine Wk.st (g' := (mkF m 15 #[.val (.int (3 : Int32)), .val (.int x0), .val (.int ((x0 &&& (255 : Int32)).toUInt32.toUInt16.toUInt32.toInt32)), .unset, .unset] [(.int (((x0.toUInt32 >>> ((8 : Int32) &&& 31).toUInt32).toInt32) &&& (255 : Int32)))])) (fun X t q => XS.iand X.here C.hx rfl (hb C.hby d1_14) rfl q) ?_
  refine Wk.st (g' := (mkF m 16 #[.val (.int (3 : Int32)), .val (.int x0), .val (.int ((x0 &&& (255 : Int32)).toUInt32.toUInt16.toUInt32.toInt32)), .unset, .unset] [(.int ((((x0.toUInt32 >>> ((8 : Int32) &&& 31).toUInt32).toInt32) &&& (255 : Int32)).toUInt32.toUInt16.toUInt32.toInt32))])) (fun X t q => XS.i2c X.here C.hx rfl (hb C.hby d1_15) rfl q) ?_
  refine Wk.st (g' := (mkF m 17 #[.val (.int (3 : Int32)), .val (.int x0), .val (.int ((x0 &&& (255 : Int32)).toUInt32.toUInt16.toUInt32.toInt32)), .val (.int ((((x0.toUInt32 >>> ((8 : Int32) &&& 31).toUInt32).toInt32) &&& (255 : Int32)).toUInt32.toUInt16.toUInt32.toInt32)), .unset] [])) (fun X t q => XS.istoreN X.here C.hx rfl (hb C.hby d1_16) rfl (l' := #[.val (.int (3 : Int32)), .val (.int x0), .val (.int ((x0 &&& (255 : Int32)).toUInt32.toUInt16.toUInt32.toInt32)), .val (.int ((((x0.toUInt32 >>> ((8 : Int32) &&& 31).toUInt32).toInt32) &&& (255 : Int32)).toUInt32.toUInt16.toUInt32.toInt32)), .unset]) rfl q) ?_
  refine Wk.ild C d1_17 rfl ?_
  refine Wk.st (g' := (mkF m 20 #[.val (.int (3 : Int32)), .val (.int x0), .val (.int ((x0 &&& (255 : Int32)).toUInt32.toUInt16.toUInt32.toInt32)), .val (.int ((((x0.toUInt32 >>> ((8 : Int32) &&& 31).toUInt32).toInt32) &&& (255 : Int32)).toUInt32.toUInt16.toUInt32.toInt32)), .unset] [(.int (16 : Int32)), (.int x0)])) (fun X t q => XS.bipush X.here C.hx rfl (hb C.hby d1_18) q) ?_
  refine Wk.st (g' := (mkF m 21 #[.val (.int (3 : Int32)), .val (.int x0), .val (.int ((x0 &&& (255 : Int32)).toUInt32.toUInt16.toUInt32.toInt32)), .val (.int ((((x0.toUInt32 >>> ((8 : Int32) &&& 31).toUInt32).toInt32) &&& (255 : Int32)).toUInt32.toUInt16.toUInt32.toInt32)), .unset] [(.int ((x0.toUInt32 >>> ((16 : Int32) &&& 31).toUInt32).toInt32))])) (fun X t q => XS.iushr X.here C.hx rfl (hb C.hby d1_20) rfl q) ?_
  refine Wk.st (g' := (mkF m 24 #[.val (.int (3 : Int32)), .val (.int x0), .val (.int ((x0 &&& (255 : Int32)).toUInt32.toUInt16.toUInt32.toInt32)), .val (.int ((((x0.toUInt32 >>> ((8 : Int32) &&& 31).toUInt32).toInt32) &&& (255 : Int32)).toUInt32.toUInt16.toUInt32.toInt32)), .unset] [(.int (255 : Int32)), (.int ((x0.toUInt32 >>> ((16 : Int32) &&& 31).toUInt32).toInt32))])) (fun X t q => XS.sipush X.here C.hx rfl (hb C.hby d1_21) q) ?_
  refine Wk.st (g' := (mkF m 25 #[.val (.int (3 : Int32)), .val (.int x0), .val (.int ((x0 &&& (255 : Int32)).toUInt32.toUInt16.toUInt32.toInt32)), .val (.int ((((x0.toUInt32 >>> ((8 : Int32) &&& 31).toUInt32).toInt32) &&& (255 : Int32)).toUInt32.toUInt16.toUInt32.toInt32)), .unset] [(.int (((x0.toUInt32 >>> ((16 : Int32) &&& 31).toUInt32).toInt32) &&& (255 : Int32)))])) (fun X t q => XS.iand X.here C.hx rfl (hb C.hby d1_24) rfl q) ?_
  refine Wk.st (g' := (mkF m 26 #[.val (.int (3 : Int32)), .val (.int x0), .val (.int ((x0 &&& (255 : Int32)).toUInt32.toUInt16.toUInt32.toInt32)), .val (.int ((((x0.toUInt32 >>> ((8 : Int32) &&& 31).toUInt32).toInt32) &&& (255 : Int32)).toUInt32.toUInt16.toUInt32.toInt32)), .unset] [(.int ((((x0.toUInt32 >>> ((16 : Int32) &&& 31).toUInt32).toInt32) &&& (255 : Int32)).toUInt32.toUInt16.toUInt32.toInt32))])) (fun X t q => XS.i2c X.here C.hx rfl (hb C.hby d1_25) rfl q) ?_
  refine Wk.st (g' := (mkF m 28 #[.val (.int (3 : Int32)), .val (.int x0), .val (.int ((x0 &&& (255 : Int32)).toUInt32.toUInt16.toUInt32.toInt32)), .val (.int ((((x0.toUInt32 >>> ((8 : Int32) &&& 31).toUInt32).toInt32) &&& (255 : Int32)).toUInt32.toUInt16.toUInt32.toInt32)), .val (.int ((((x0.toUInt32 >>> ((16 : Int32) &&& 31).toUInt32).toInt32) &&& (255 : Int32)).toUInt32.toUInt16.toUInt32.toInt32))] [])) (fun X t q => XS.istore X.here C.hx rfl (hb C.hby d1_26) rfl (l' := #[.val (.int (3 : Int32)), .val (.int x0), .val (.int ((x0 &&& (255 : Int32)).toUInt32.toUInt16.toUInt32.toInt32)), .val (.int ((((x0.toUInt32 >>> ((8 : Int32) &&& 31).toUInt32).toInt32) &&& (255 : Int32)).toUInt32.toUInt16.toUInt32.toInt32)), .val (.int ((((x0.toUInt32 >>> ((16 : Int32) &&& 31).toUInt32).toInt32) &&& (255 : Int32)).toUInt32.toUInt16.toUInt32.toInt32))]) rfl q) ?_
  refine Wk.ild C d1_28 rfl ?_
  refine Wk.ifY C (pc' := 35) d1_29 (XT.i0_ne_t (by decide)) (by decide) (by decide) ?_
  refine Wk.ild C d1_35 rfl ?_
  refine Wk.st (g' := (mkF m 37 #[.val (.int (3 : Int32)), .val (.int x0), .val (.int ((x0 &&& (255 : Int32)).toUInt32.toUInt16.toUInt32.toInt32)), .val (.int ((((x0.toUInt32 >>> ((8 : Int32) &&& 31).toUInt32).toInt32) &&& (255 : Int32)).toUInt32.toUInt16.toUInt32.toInt32)), .val (.int ((((x0.toUInt32 >>> ((16 : Int32) &&& 31).toUInt32).toInt32) &&& (255 : Int32)).toUInt32.toUInt16.toUInt32.toInt32))] [(.int (1 : Int32)), (.int (3 : Int32))])) (fun X t q => XS.iconst X.here C.hx rfl (hb C.hby d1_36) q) ?_
  refine Wk.icY C (pc' := 45) d1_37 (XT.ii_ne_t (by decide)) (by decide) (by decide) ?_
  refine Wk.ild C d1_45 rfl ?_
  refine Wk.st (g' := (mkF m 47 #[.val (.int (3 : Int32)), .val (.int x0), .val (.int ((x0 &&& (255 : Int32)).toUInt32.toUInt16.toUInt32.toInt32)), .val (.int ((((x0.toUInt32 >>> ((8 : Int32) &&& 31).toUInt32).toInt32) &&& (255 : Int32)).toUInt32.toUInt16.toUInt32.toInt32)), .val (.int ((((x0.toUInt32 >>> ((16 : Int32) &&& 31).toUInt32).toInt32) &&& (255 : Int32)).toUInt32.toUInt16.toUInt32.toInt32))] [(.int (2 : Int32)), (.int (3 : Int32))])) (fun X t q => XS.iconst X.here C.hx rfl (hb C.hby d1_46) q) ?_
  refine Wk.icY C (pc' := 69) d1_47 (XT.ii_ne_t (by decide)) (by decide) (by decide) ?_
  refine Wk.newO C (wd hw 56) (wd hw 6) (wd hw 5) d1_69 (by decide) (by decide) ?_
  intro h1 b2 g3 E4 A5 D6
  have ge7 : n0 ≤ b2 := Nat.le_trans hsz (Nat.le_of_eq g3.symm)
  have gz8 : h0.size ≤ b2 := Nat.le_trans (Nat.le_refl h0.size) (Nat.le_of_eq g3.symm)
  have F9 : Sta Z h1 ST "COMPACT_STRINGS" "Z" (.int x1) := P0.ext E4
  have sz10 : n0 ≤ h1.size := Nat.le_trans hsz E4.1
  have sy11 : h0.size ≤ h1.size := Nat.le_trans (Nat.le_refl h0.size) E4.1
  have K12 := (Keep.refl h0 []).ext E4
  have F13 : Fld Z h1 b2 ST "value" "[B" .null := D6 (Or.inr (wd hw 8)) (ty := (.array .byte)) (by decide)
  have F14 : Fld Z h1 b2 ST "coder" "B" (.int (0 : Int32)) := D6 (Or.inr (wd hw 9)) (ty := .byte) (by decide)
  show Wk _ p l e _ s m _ below meth c n0 _ h1 1 4 (mkF m 72 #[.val (.int (3 : Int32)), .val (.int x0), .val (.int ((x0 &&& (255 : Int32)).toUInt32.toUInt16.toUInt32.toInt32)), .val (.int ((((x0.toUInt32 >>> ((8 : Int32) &&& 31).toUInt32).toInt32) &&& (255 : Int32)).toUInt32.toUInt16.toUInt32.toInt32)), .val (.int ((((x0.toUInt32 >>> ((16 : Int32) &&& 31).toUInt32).toInt32) &&& (255 : Int32)).toUInt32.toUInt16.toUInt32.toInt32))] [(.ref b2)])
  refine Wk.dupS C d1_72 rfl ?_
  refine Wk.st (g' := (mkF m 74 #[.val (.int (3 : Int32)), .val (.int x0), .val (.int ((x0 &&& (255 : Int32)).toUInt32.toUInt16.toUInt32.toInt32)), .val (.int ((((x0.toUInt32 >>> ((8 : Int32) &&& 31).toUInt32).toInt32) &&& (255 : Int32)).toUInt32.toUInt16.toUInt32.toInt32)), .val (.int ((((x0.toUInt32 >>> ((16 : Int32) &&& 31).toUInt32).toInt32) &&& (255 : Int32)).toUInt32.toUInt16.toUInt32.toInt32))] [(.int (3 : Int32)), (.ref b2), (.ref b2)])) (fun X t q => XS.iconst X.here C.hx rfl (hb C.hby d1_73) q) ?_
  refine Wk.fNewP C (wd hw 57) (ty := .char) (dv := (.int (0 : Int32))) (N := 3) (ad := "[C") rfl rfl (by decide) (by decide) (by decide) (cap := 3) (by decide) (by decide) d1_74 (by decide) (by decide) ?_
  intro h15 b16 g17 E18 A19 F20
  have ne21 : b2 ≠ b16 := Nat.ne_of_lt (Nat.lt_of_lt_of_le A5.lt (Nat.le_of_eq g17.symm))
  have ge22 : n0 ≤ b16 := Nat.le_trans sz10 (Nat.le_of_eq g17.symm)
  have gz23 : h0.size ≤ b16 := Nat.le_trans sy11 (Nat.le_of_eq g17.symm)
  have F24 : Sta Z h15 ST "COMPACT_STRINGS" "Z" (.int x1) := F9.ext E18
  have F25 : Exa Z h15 b2 ST := A5.ext E18
  have F26 : Fld Z h15 b2 ST "value" "[B" .null := F13.ext E18
  have F27 : Fld Z h15 b2 ST "coder" "B" (.int (0 : Int32)) := F14.ext E18
  have sz28 : n0 ≤ h15.size := Nat.le_trans sz10 E18.1
  have sy29 : h0.size ≤ h15.size := Nat.le_trans sy11 E18.1
  have K30 := K12.ext E18
  show Wk _ p l e _ s m _ below meth c n0 _ h15 2 7 (mkF m 76 #[.val (.int (3 : Int32)), .val (.int x0), .val (.int ((x0 &&& (255 : Int32)).toUInt32.toUInt16.toUInt32.toInt32)), .val (.int ((((x0.toUInt32 >>> ((8 : Int32) &&& 31).toUInt32).toInt32) &&& (255 : Int32)).toUInt32.toUInt16.toUInt32.toInt32)), .val (.int ((((x0.toUInt32 >>> ((16 : Int32) &&& 31).toUInt32).toInt32) &&& (255 : Int32)).toUInt32.toUInt16.toUInt32.toInt32))] [(.ref b16), (.ref b2), (.ref b2)])
  refine Wk.dupS C d1_76 rfl ?_
  refine Wk.st (g' := (mkF m 78 #[.val (.int (3 : Int32)), .val (.int x0), .val (.int ((x0 &&& (255 : Int32)).toUInt32.toUInt16.toUInt32.toInt32)), .val (.int ((((x0.toUInt32 >>> ((8 : Int32) &&& 31).toUInt32).toInt32) &&& (255 : Int32)).toUInt32.toUInt16.toUInt32.toInt32)), .val (.int ((((x0.toUInt32 >>> ((16 : Int32) &&& 31).toUInt32).toInt32) &&& (255 : Int32)).toUInt32.toUInt16.toUInt32.toInt32))] [(.int (0 : Int32)), (.ref b16), (.ref b16), (.ref b2), (.ref b2)])) (fun X t q => XS.iconst X.here C.hx rfl (hb C.hby d1_77) q) ?_
  refine Wk.ild C d1_78 rfl ?_
  refine Wk.fStC C F20 (x' := (nar .char ((x0 &&& (255 : Int32)).toUInt32.toUInt16.toUInt32.toInt32))) rfl (i := 0) (by decide) (by decide) (by decide) ge22 d1_79 ?_
  intro h31 W32 F33
  have F34 : Sta Z h31 ST "COMPACT_STRINGS" "Z" (.int x1) := F24.wr W32
  have F35 : Exa Z h31 b2 ST := F25.wr W32
  have F36 : Fld Z h31 b2 ST "value" "[B" .null := F26.other W32 (Or.inl ne21)
  have F37 : Fld Z h31 b2 ST "coder" "B" (.int (0 : Int32)) := F27.other W32 (Or.inl ne21)
  have F38 : Exa Z h31 b16 "[C" := A19.wr W32
  have sz39 : n0 ≤ h31.size := Nat.le_trans sz28 (Nat.le_of_eq W32.size.symm)
  have sy40 : h0.size ≤ h31.size := Nat.le_trans sy29 (Nat.le_of_eq W32.size.symm)
  have K41 := K30.wr W32 (Or.inr gz23)
  show Wk _ p l e _ s m _ below meth c n0 _ h31 2 7 (mkF m 80 #[.val (.int (3 : Int32)), .val (.int x0), .val (.int ((x0 &&& (255 : Int32)).toUInt32.toUInt16.toUInt32.toInt32)), .val (.int ((((x0.toUInt32 >>> ((8 : Int32) &&& 31).toUInt32).toInt32) &&& (255 : Int32)).toUInt32.toUInt16.toUInt32.toInt32)), .val (.int ((((x0.toUInt32 >>> ((16 : Int32) &&& 31).toUInt32).toInt32) &&& (255 : Int32)).toUInt32.toUInt16.toUInt32.toInt32))] [(.ref b16), (.ref b2), (.ref b2)])
  refine Wk.dupS C d1_80 rfl ?_
  refine Wk.st (g' := (mkF m 82 #[.val (.int (3 : Int32)), .val (.int x0), .val (.int ((x0 &&& (255 : Int32)).toUInt32.toUInt16.toUInt32.toInt32)), .val (.int ((((x0.toUInt32 >>> ((8 : Int32) &&& 31).toUInt32).toInt32) &&& (255 : Int32)).toUInt32.toUInt16.toUInt32.toInt32)), .val (.int ((((x0.toUInt32 >>> ((16 : Int32) &&& 31).toUInt32).toInt32) &&& (255 : Int32)).toUInt32.toUInt16.toUInt32.toInt32))] [(.int (1 : Int32)), (.ref b16), (.ref b16), (.ref b2), (.ref b2)])) (fun X t q => XS.iconst X.here C.hx rfl (hb C.hby d1_81) q) ?_
  refine Wk.ild C d1_82 rfl ?_
  refine Wk.fStC C F33 (x' := (nar .char ((((x0.toUInt32 >>> ((8 : Int32) &&& 31).toUInt32).toInt32) &&& (255 : Int32)).toUInt32.toUInt16.toUInt32.toInt32))) rfl (i := 1) (by decide) (by decide) (by decide) ge22 d1_83 ?_
  intro h42 W43 F44
  have F45 : Sta Z h42 ST "COMPACT_STRINGS" "Z" (.int x1) := F34.wr W43
  have F46 : Exa Z h42 b2 ST := F35.wr W43
  have F47 : Fld Z h42 b2 ST "value" "[B" .null := F36.other W43 (Or.inl ne21)
  have F48 : Fld Z h42 b2 ST "coder" "B" (.int (0 : Int32)) := F37.other W43 (Or.inl ne21)
  have F49 : Exa Z h42 b16 "[C" := F38.wr W43
  have sz50 : n0 ≤ h42.size := Nat.le_trans sz39 (Nat.le_of_eq W43.size.symm)
  have sy51 : h0.size ≤ h42.size := Nat.le_trans sy40 (Nat.le_of_eq W43.size.symm)
  have K52 := K41.wr W43 (Or.inr gz23)
  show Wk _ p l e _ s m _ below meth c n0 _ h42 2 7 (mkF m 84 #[.val (.int (3 : Int32)), .val (.int x0), .val (.int ((x0 &&& (255 : Int32)).toUInt32.toUInt16.toUInt32.toInt32)), .val (.int ((((x0.toUInt32 >>> ((8 : Int32) &&& 31).toUInt32).toInt32) &&& (255 : Int32)).toUInt32.toUInt16.toUInt32.toInt32)), .val (.int ((((x0.toUInt32 >>> ((16 : Int32) &&& 31).toUInt32).toInt32) &&& (255 : Int32)).toUInt32.toUInt16.toUInt32.toInt32))] [(.ref b16), (.ref b2), (.ref b2)])
  refine Wk.dupS C d1_84 rfl ?_
  refine Wk.st (g' := (mkF m 86 #[.val (.int (3 : Int32)), .val (.int x0), .val (.int ((x0 &&& (255 : Int32)).toUInt32.toUInt16.toUInt32.toInt32)), .val (.int ((((x0.toUInt32 >>> ((8 : Int32) &&& 31).toUInt32).toInt32) &&& (255 : Int32)).toUInt32.toUInt16.toUInt32.toInt32)), .val (.int ((((x0.toUInt32 >>> ((16 : Int32) &&& 31).toUInt32).toInt32) &&& (255 : Int32)).toUInt32.toUInt16.toUInt32.toInt32))] [(.int (2 : Int32)), (.ref b16), (.ref b16), (.ref b2), (.ref b2)])) (fun X t q => XS.iconst X.here C.hx rfl (hb C.hby d1_85) q) ?_
  refine Wk.ildW C d1_86 rfl ?_
  refine Wk.fStC C F44 (x' := (nar .char ((((x0.toUInt32 >>> ((16 : Int32) &&& 31).toUInt32).toInt32) &&& (255 : Int32)).toUInt32.toUInt16.toUInt32.toInt32))) rfl (i := 2) (by decide) (by decide) (by decide) ge22 d1_88 ?_
  intro h53 W54 F55
  have F56 : Sta Z h53 ST "COMPACT_STRINGS" "Z" (.int x1) := F45.wr W54
  have F57 : Exa Z h53 b2 ST := F46.wr W54
  have F58 : Fld Z h53 b2 ST "value" "[B" .null := F47.other W54 (Or.inl ne21)
  have F59 : Fld Z h53 b2 ST "coder" "B" (.int (0 : Int32)) := F48.other W54 (Or.inl ne21)
  have F60 : Exa Z h53 b16 "[C" := F49.wr W54
  have sz61 : n0 ≤ h53.size := Nat.le_trans sz50 (Nat.le_of_eq W54.size.symm)
  have sy62 : h0.size ≤ h53.size := Nat.le_trans sy51 (Nat.le_of_eq W54.size.symm)
  have K63 := K52.wr W54 (Or.inr gz23)
  show Wk _ p l e _ s m _ below meth c n0 _ h53 2 7 (mkF m 89 #[.val (.int (3 : Int32)), .val (.int x0), .val (.int ((x0 &&& (255 : Int32)).toUInt32.toUInt16.toUInt32.toInt32)), .val (.int ((((x0.toUInt32 >>> ((8 : Int32) &&& 31).toUInt32).toInt32) &&& (255 : Int32)).toUInt32.toUInt16.toUInt32.toInt32)), .val (.int ((((x0.toUInt32 >>> ((16 : Int32) &&& 31).toUInt32).toInt32) &&& (255 : Int32)).toUInt32.toUInt16.toUInt32.toInt32))] [(.ref b16), (.ref b2), (.ref b2)])
  refine Wk.callI C (z := (⟨ST, "<init>", "([C)V"⟩ : MethodName)) rfl (wd hw 58) (wd hw 59) (wd hw 5) (wd hw 60) (by decide) (own_8_11 l Z a0 hw n0 h53 sz61 b2 b16 x1 (nar .char ((x0 &&& (255 : Int32)).toUInt32.toUInt16.toUInt32.toInt32)) (nar .char ((((x0.toUInt32 >>> ((8 : Int32) &&& 31).toUInt32).toInt32) &&& (255 : Int32)).toUInt32.toUInt16.toUInt32.toInt32)) (nar .char ((((x0.toUInt32 >>> ((16 : Int32) &&& 31).toUInt32).toInt32) &&& (255 : Int32)).toUInt32.toUInt16.toUInt32.toInt32)) F56 F57 F58 F59 F60 F55 ne21 ge7 ge22 (latn x0) (latn ((x0.toUInt32 >>> ((8 : Int32) &&& 31).toUInt32).toInt32)) (latn ((x0.toUInt32 >>> ((16 : Int32) &&& 31).toUInt32).toInt32)) nz_x1) (w := 1) (by decide) (by decide) pd_35 rfl (rest := [(.ref b2)]) rfl rfl (Nat.le_of_eq rfl) (by decide) (by decide) d1_89 ?_
  rintro _ h65 ⟨n64_n1_n1_b2, rfl, K66, gn72, F67, F68, F69, F70, F71⟩
  show Wk _ p l e _ s m _ below meth c n0 _ h65 3 10 (mkF m 92 #[.val (.int (3 : Int32)), .val (.int x0), .val (.int ((x0 &&& (255 : Int32)).toUInt32.toUInt16.toUInt32.toInt32)), .val (.int ((((x0.toUInt32 >>> ((8 : Int32) &&& 31).toUInt32).toInt32) &&& (255 : Int32)).toUInt32.toUInt16.toUInt32.toInt32)), .val (.int ((((x0.toUInt32 >>> ((16 : Int32) &&& 31).toUInt32).toInt32) &&& (255 : Int32)).toUInt32.toUInt16.toUInt32.toInt32))] [(.ref b2)])
  have ne73 : b2 ≠ n64_n1_n1_b2 := Nat.ne_of_lt (Nat.lt_of_lt_of_le F57.lt gn72)
  have ne74 : b16 ≠ n64_n1_n1_b2 := Nat.ne_of_lt (Nat.lt_of_lt_of_le F60.lt gn72)
  have ge75 : n0 ≤ n64_n1_n1_b2 := Nat.le_trans sz61 gn72
  have gz76 : h0.size ≤ n64_n1_n1_b2 := Nat.le_trans sy62 gn72
  have F77 : Exa Z h65 b2 ST := F57.keep K66
  have F78 : Exa Z h65 b16 "[C" := F60.keep K66
  have F79 : Fa Z h65 b16 .char 3 (up (up (up (fun _ => (.int (0 : Int32))) 0 (.int (nar .char ((x0 &&& (255 : Int32)).toUInt32.toUInt16.toUInt32.toInt32)))) 1 (.int (nar .char ((((x0.toUInt32 >>> ((8 : Int32) &&& 31).toUInt32).toInt32) &&& (255 : Int32)).toUInt32.toUInt16.toUInt32.toInt32)))) 2 (.int (nar .char ((((x0.toUInt32 >>> ((16 : Int32) &&& 31).toUInt32).toInt32) &&& (255 : Int32)).toUInt32.toUInt16.toUInt32.toInt32)))) := F55.keep K66 (nmS (Ne.symm ne21) nm0)
  have sz80 : n0 ≤ h65.size := Nat.le_trans sz61 K66.1
  have K81 := K63.trans K66 (nvS (Or.inr gz8) nv0)
  have sy82 : h0.size ≤ h65.size := Nat.le_trans sy62 K66.1
  exact Wk.retV C (t := (.object ST)) rfl rfl (Or.inr (Or.inr (Or.inr (Or.inr ⟨rfl, rfl, rfl⟩)))) d1_92 (by decide) (by decide) ⟨b2, n64_n1_n1_b2, rfl, K81, gz8, gz76, ne73, F77, F67, F68, F69, F70, F71⟩
set_option maxRecDepth 65536 in
set_option maxHeartbeats 40000000 in
theorem own_p0 (l : Launch) (Z : State) (a0 : Array Value) (hw : ∀ d ∈ tables_1, d.before a0 Z = true) (n0 : Nat) (h0 : Heap) (lt : Option Addr) (hsz : n0 ≤ h0.size) (EZ : Ext Z.heap h0) (LO : LtOk Z h0 lt) (HD : ConstHeldL Z "com/example/amendatory/amendatory/BuilderClearPinLaw" 49) (x0 : Int32) :
    MetL l Z n0 (⟨"com/example/amendatory/amendatory/BuilderClearPinLaw", "para", "(II)Ljava/lang/String;"⟩ : MethodName) method_4_code 5 (some (.object ST)) ({ frames := 4, cells := 3, slots := 10, locals := 66 } : Room) #[(.int (0 : Int32)), (.int x0)] lt h0 (fun r h lt' => ∃ (y vy : Addr) (n : Nat) (f : Nat → Value), r = some (.ref y) ∧ Str Z h y vy n f ∧ n ≤ 3 ∧ Ext h0 h ∧ LtOk Z h lt') := by
  refine MetL.ofH (plainFor_of_name pn_10) #[.val (.int (0 : Int32)), .val (.int x0), .unset, .unset, .unset] (fun m => by first | (simp [entryFrame, mkF, argsToLocals, Value.category]; done) | rfl) ?_
  intro p e s m below meth c C hs0
  refine Wl.ild C d1_0 rfl ?_
  refine Wl.st (g' := (mkF m 4 #[.val (.int (0 : Int32)), .val (.int x0), .unset, .unset, .unset] [(.int (255 : Int32)), (.int x0)])) (fun X t q => XS.sipush X.here C.hx rfl (hb C.hby d1_1) q) ?_
  refine Wl.st (g' := (mkF m 5 #[.val (.int (0 : Int32)), .val (.int x0), .unset, .unset, .unset] [(.int (x0 &&& (255 : Int32)))])) (fun X t q => XS.iand X.here C.hx rfl (hb C.hby d1_4) rfl q) ?_
  refine Wl.st (g' := (mkF m 6 #[.val (.int (0 : Int32)), .val (.int x0), .unset, .unset, .unset] [(.int ((x0 &&& (255 : Int32)).toUInt32.toUInt16.toUInt32.toInt32))])) (fun X t q => XS.i2c X.here C.hx rfl (hb C.hby d1_5) rfl q) ?_
  refine Wl.st (g' := (mkF m 7 #[.val (.int (0 : Int32)), .val (.int x0), .val (.int ((x0 &&& (255 : Int32)).toUInt32.toUInt16.toUInt32.toInt32)), .unset, .unset] [])) (fun X t q => XS.istoreN X.here C.hx rfl (hb C.hby d1_6) rfl (l' := #[.val (.int (0 : Int32)), .val (.int x0), .val (.int ((x0 &&& (255 : Int32)).toUInt32.toUInt16.toUInt32.toInt32)), .unset, .unset]) rfl q) ?_
  refine Wl.ild C d1_7 rfl ?_
  refine Wl.st (g' := (mkF m 10 #[.val (.int (0 : Int32)), .val (.int x0), .val (.int ((x0 &&& (255 : Int32)).toUInt32.toUInt16.toUInt32.toInt32)), .unset, .unset] [(.int (8 : Int32)), (.int x0)])) (fun X t q => XS.bipush X.here C.hx rfl (hb C.hby d1_8) q) ?_
  refine Wl.st (g' := (mkF m 11 #[.val (.int (0 : Int32)), .val (.int x0), .val (.int ((x0 &&& (255 : Int32)).toUInt32.toUInt16.toUInt32.toInt32)), .unset, .unset] [(.int ((x0.toUInt32 >>> ((8 : Int32) &&& 31).toUInt32).toInt32))])) (fun X t q => XS.iushr X.here C.hx rfl (hb C.hby d1_10) rfl q) ?_
  refine Wl.st (g' := (mkF m 14 #[.val (.int (0 : Int32)), .val (.int x0), .val (.int ((x0 &&& (255 : Int32)).toUInt32.toUInt16.toUInt32.toInt32)), .unset, .unset] [(.int (255 : Int32)), (.int ((x0.toUInt32 >>> ((8 : Int32) &&& 31).toUInt32).toInt32))])) (fun X t q => XS.sipush X.here C.hx rfl (hb C.hby d1_11) q) ?_
  refine Wl.st (g' := (mkF m 15 #[.val (.int (0 : Int32)), .val (.int x0), .val (.int ((x0 &&& (255 : Int32)).toUInt32.toUInt16.toUInt32.toInt32)), .unset, .unset] [(.int (((x0.toUInt32 >>> ((8 : Int32) &&& 31).toUInt32).toInt32) &&& (255 : Int32)))])) (fun X t q => XS.iand X.here C.hx rfl (hb C.hby d1_14) rfl q) ?_
  refine Wl.st (g' := (mkF m 16 #[.val (.int (0 : Int32)), .val (.int x0), .val (.int ((x0 &&& (255 : Int32)).toUInt32.toUInt16.toUInt32.toInt32)), .unset, .unset] [(.int ((((x0.toUInt32 >>> ((8 : Int32) &&& 31).toUInt32).toInt32) &&& (255 : Int32)).toUInt32.toUInt16.toUInt32.toInt32))])) (fun X t q => XS.i2c X.here C.hx rfl (hb C.hby d1_15) rfl q) ?_
  refine Wl.st (g' := (mkF m 17 #[.val (.int (0 : Int32)), .val (.int x0), .val (.int ((x0 &&& (255 : Int32)).toUInt32.toUInt16.toUInt32.toInt32)), .val (.int ((((x0.toUInt32 >>> ((8 : Int32) &&& 31).toUInt32).toInt32) &&& (255 : Int32)).toUInt32.toUInt16.toUInt32.toInt32)), .unset] [])) (fun X t q => XS.istoreN X.here C.hx rfl (hb C.hby d1_16) rfl (l' := #[.val (.int (0 : Int32)), .val (.int x0), .val (.int ((x0 &&& (255 : Int32)).toUInt32.toUInt16.toUInt32.toInt32)), .val (.int ((((x0.toUInt32 >>> ((8 : Int32) &&& 31).toUInt32).toInt32) &&& (255 : Int32)).toUInt32.toUInt16.toUInt32.toInt32)), .unset]) rfl q) ?_
  refine Wl.ild C d1_17 rfl ?_
  refine Wl.st (g' := (mkF m 20 #[.val (.int (0 : Int32)), .val (.int x0), .val (.int ((x0 &&& (255 : Int32)).toUInt32.toUInt16.toUInt32.toInt32)), .val (.int ((((x0.toUInt32 >>> ((8 : Int32) &&& 31).toUInt32).toInt32) &&& (255 : Int32)).toUInt32.toUInt16.toUInt32.toInt32)), .unset] [(.int (16 : Int32)), (.int x0)])) (fun X t q => XS.bipush X.here C.hx rfl (hb C.hby d1_18) q) ?_
  refine Wl.st (g' := (mkF m 21 #[.val (.int (0 : Int32)), .val (.int x0), .val (.int ((x0 &&& (255 : Int32)).toUInt32.toUInt16.toUInt32.toInt32)), .val (.int ((((x0.toUInt32 >>> ((8 : Int32) &&& 31).toUInt32).toInt32) &&& (255 : Int32)).toUInt32.toUInt16.toUInt32.toInt32)), .unset] [(.int ((x0.toUInt32 >>> ((16 : Int32) &&& 31).toUInt32).toInt32))])) (fun X t q => XS.iushr X.here C.hx rfl (hb C.hby d1_20) rfl q) ?_
  refine Wl.st (g' := (mkF m 24 #[.val (.int (0 : Int32)), .val (.int x0), .val (.int ((x0 &&& (255 : Int32)).toUInt32.toUInt16.toUInt32.toInt32)), .val (.int ((((x0.toUInt32 >>> ((8 : Int32) &&& 31).toUInt32).toInt32) &&& (255 : Int32)).toUInt32.toUInt16.toUInt32.toInt32)), .unset] [(.int (255 : Int32)), (.int ((x0.toUInt32 >>> ((16 : Int32) &&& 31).toUInt32).toInt32))])) (fun X t q => XS.sipush X.here C.hx rfl (hb C.hby d1_21) q) ?_
  refine Wl.st (g' := (mkF m 25 #[.val (.int (0 : Int32)), .val (.int x0), .val (.int ((x0 &&& (255 : Int32)).toUInt32.toUInt16.toUInt32.toInt32)), .val (.int ((((x0.toUInt32 >>> ((8 : Int32) &&& 31).toUInt32).toInt32) &&& (255 : Int32)).toUInt32.toUInt16.toUInt32.toInt32)), .unset] [(.int (((x0.toUInt32 >>> ((16 : Int32) &&& 31).toUInt32).toInt32) &&& (255 : Int32)))])) (fun X t q => XS.iand X.here C.hx rfl (hb C.hby d1_24) rfl q) ?_
  refine Wl.st (g' := (mkF m 26 #[.val (.int (0 : Int32)), .val (.int x0), .val (.int ((x0 &&& (255 : Int32)).toUInt32.toUInt16.toUInt32.toInt32)), .val (.int ((((x0.toUInt32 >>> ((8 : Int32) &&& 31).toUInt32).toInt32) &&& (255 : Int32)).toUInt32.toUInt16.toUInt32.toInt32)), .unset] [(.int ((((x0.toUInt32 >>> ((16 : Int32) &&& 31).toUInt32).toInt32) &&& (255 : Int32)).toUInt32.toUInt16.toUInt32.toInt32))])) (fun X t q => XS.i2c X.here C.hx rfl (hb C.hby d1_25) rfl q) ?_
  refine Wl.st (g' := (mkF m 28 #[.val (.int (0 : Int32)), .val (.int x0), .val (.int ((x0 &&& (255 : Int32)).toUInt32.toUInt16.toUInt32.toInt32)), .val (.int ((((x0.toUInt32 >>> ((8 : Int32) &&& 31).toUInt32).toInt32) &&& (255 : Int32)).toUInt32.toUInt16.toUInt32.toInt32)), .val (.int ((((x0.toUInt32 >>> ((16 : Int32) &&& 31).toUInt32).toInt32) &&& (255 : Int32)).toUInt32.toUInt16.toUInt32.toInt32))] [])) (fun X t q => XS.istore X.here C.hx rfl (hb C.hby d1_26) rfl (l' := #[.val (.int (0 : Int32)), .val (.int x0), .val (.int ((x0 &&& (255 : Int32)).toUInt32.toUInt16.toUInt32.toInt32)), .val (.int ((((x0.toUInt32 >>> ((8 : Int32) &&& 31).toUInt32).toInt32) &&& (255 : Int32)).toUInt32.toUInt16.toUInt32.toInt32)), .val (.int ((((x0.toUInt32 >>> ((16 : Int32) &&& 31).toUInt32).toInt32) &&& (255 : Int32)).toUInt32.toUInt16.toUInt32.toInt32))]) rfl q) ?_
  refine Wl.ild C d1_28 rfl ?_
  refine Wl.ifN C d1_29 (XT.i0_ne_f (by decide)) ?_
  refine Wl.ldcE C hs0 (fun _ _ q => q) (fun x cl q => EZ.2 x cl q) (wd hw 4) (own_wS hw) (wd hw 6) HD LO d1_32 (by decide) (by decide) ?_
  intro h1 a2 va3 lt4 E5 S6 q7 pl8
  show Wl Z p l e _ s m _ below meth c n0 _ lt4 h1 2 4 (mkF m 34 #[.val (.int (0 : Int32)), .val (.int x0), .val (.int ((x0 &&& (255 : Int32)).toUInt32.toUInt16.toUInt32.toInt32)), .val (.int ((((x0.toUInt32 >>> ((8 : Int32) &&& 31).toUInt32).toInt32) &&& (255 : Int32)).toUInt32.toUInt16.toUInt32.toInt32)), .val (.int ((((x0.toUInt32 >>> ((16 : Int32) &&& 31).toUInt32).toInt32) &&& (255 : Int32)).toUInt32.toUInt16.toUInt32.toInt32))] [(.ref a2)])
  exact Wl.retV C (t := (.object ST)) rfl rfl (Or.inr (Or.inr (Or.inr (Or.inr ⟨rfl, rfl, rfl⟩)))) d1_34 (by decide) (by decide) ⟨a2, va3, 0, fun _ => .int 0, rfl, S6.str, by decide, E5, LO.now E5 S6 q7⟩
set_option maxRecDepth 65536 in
theorem own_para (l : Launch) (Z : State) (a0 : Array Value) (hw : ∀ d ∈ tables_1, d.before a0 Z = true) (n0 : Nat) (h0 : Heap) (lt : Option Addr) (hsz : n0 ≤ h0.size) (EZ : Ext Z.heap h0) (LO : LtOk Z h0 lt) (HD : ConstHeldL Z "com/example/amendatory/amendatory/BuilderClearPinLaw" 49) (cs : Int32) (SC : Sta Z h0 ST "COMPACT_STRINGS" "Z" (.int cs)) (hcs : ¬ cs = (0 : Int32)) (v x0 : Int32) (hv : v = 0 ∨ v = 1 ∨ v = 2 ∨ v = 3) :
    MetL l Z n0 (⟨"com/example/amendatory/amendatory/BuilderClearPinLaw", "para", "(II)Ljava/lang/String;"⟩ : MethodName) method_4_code 5 (some (.object ST)) ({ frames := 4, cells := 3, slots := 10, locals := 66 } : Room) #[.int v, .int x0] lt h0 (fun r h lt' => ∃ (y vy : Addr) (n : Nat) (f : Nat → Value), r = some (.ref y) ∧ Str Z h y vy n f ∧ n ≤ 3 ∧ Ext h0 h ∧ LtOk Z h lt') := by
  rcases hv with rfl | rfl | rfl | rfl
  · exact own_p0 l Z a0 hw n0 h0 lt hsz EZ LO HD x0
  · exact MetL.imp (Met.toL (own_1_0 l Z a0 hw n0 h0 hsz x0 cs SC hcs) lt) (by
      rintro _ h lt' ⟨⟨n1_b5, n1_n18_b2, rfl, K, g0, g1, z0, w0, w1, w2, w3, w4, w5⟩, elt⟩
      exact ⟨n1_b5, n1_n18_b2, 1, _, rfl, ⟨w0, w4, w5, w2, w1, z0, (fun i _ => by simp only [up]; (repeat' split) <;> first | rfl | exact fits_nar_byte _), by decide⟩, by decide, toExt K, by rw [elt]; exact LO.ext (toExt K)⟩)
  · exact MetL.imp (Met.toL (own_1_5 l Z a0 hw n0 h0 hsz x0 cs SC hcs) lt) (by
      rintro _ h lt' ⟨⟨b2, n53_n1_n1_b2, rfl, K, g0, g1, z0, w0, w1, w2, w3, w4, w5⟩, elt⟩
      exact ⟨b2, n53_n1_n1_b2, 2, _, rfl, ⟨w0, w5, w4, w3, w1, z0, (fun i _ => by simp only [up]; (repeat' split) <;> first | rfl | exact fits_nar_byte _), by decide⟩, by decide, toExt K, by rw [elt]; exact LO.ext (toExt K)⟩)
  · exact MetL.imp (Met.toL (own_1_11 l Z a0 hw n0 h0 hsz x0 cs SC hcs) lt) (by
      rintro _ h lt' ⟨⟨b2, n64_n1_n1_b2, rfl, K, g0, g1, z0, w0, w1, w2, w3, w4, w5⟩, elt⟩
      exact ⟨b2, n64_n1_n1_b2, 3, _, rfl, ⟨w0, w5, w4, w3, w1, z0, (fun i _ => by simp only [up]; (repeat' split) <;> first | rfl | exact fits_nar_byte _), by decide⟩, by decide, toExt K, by rw [elt]; exact LO.ext (toExt K)⟩)
set_option maxRecDepth 65536 in
set_option maxHeartbeats 40000000 in
theorem law_met (l : Launch) (Z : State) (a0 : Array Value) (hw : ∀ d ∈ tables_1, d.before a0 Z = true) (n0 : Nat) (h0 : Heap) (lt : Option Addr) (i0 i1 i2 i3 i4 i5 : Int32) (hsz : n0 ≤ h0.size) (EZ : Ext Z.heap h0) (LO : LtOk Z h0 lt) (HD0 : ConstHeldL Z "com/example/amendatory/amendatory/BuilderClearPinLaw" 49) (HD1 : ConstHeldL Z "java/lang/StringLatin1" 151) (cs : Int32) (SC : Sta Z h0 ST "COMPACT_STRINGS" "Z" (.int cs)) (hcs : ¬ cs = (0 : Int32)) (sv : Value) (hr_sv : sv.isRef = true) (SV : Sta Z h0 "jdk/internal/util/Preconditions" "SIOOBE_FORMATTER" "Ljava/util/function/BiFunction;" sv) (nb : Addr) (f0 : Nat → Value) (NB : Sta Z h0 PB "NO_BOUNDS" "[I" (.ref nb)) (NA : Fa Z h0 nb .int 1 f0) (NI : FI f0 1) (h00 : f0 0 = .int (0 : Int32)) (nn : Addr) (NN : Sta Z h0 PP "NONE" "Lcom/example/amendatory/amendatory/Paragraphs;" (.ref nn)) (NP : P0 Z h0 nn) :
    MetL l Z n0 x code maxLocals ret room_1 #[(.int i0), (.int i1), (.int i2), (.int i3), (.int i4), (.int i5)] lt h0 (fun r _ _ => r = some (.int 1)) := by
  refine MetL.ofH (plainFor_of_name pn_10) #[.val (.int i0), .val (.int i1), .val (.int i2), .val (.int i3), .val (.int i4), .val (.int i5), .unset, .unset, .unset, .unset, .unset, .unset, .unset, .unset, .unset] (fun m => by first | (simp [entryFrame, mkF, argsToLocals, Value.category, maxLocals]; done) | rfl) ?_
  intro p e s m below meth c C hs0
  refine Wl.ild C at_0 rfl ?_
  refine Wl.st (g' := (mkF m 2 #[.val (.int i0), .val (.int i1), .val (.int i2), .val (.int i3), .val (.int i4), .val (.int i5), .unset, .unset, .unset, .unset, .unset, .unset, .unset, .unset, .unset] [(.int (3 : Int32)), (.int i1)])) (fun X t q => XS.iconst X.here C.hx rfl (hb C.hby at_1) q) ?_
  refine Wl.st (g' := (mkF m 3 #[.val (.int i0), .val (.int i1), .val (.int i2), .val (.int i3), .val (.int i4), .val (.int i5), .unset, .unset, .unset, .unset, .unset, .unset, .unset, .unset, .unset] [(.int (i1 &&& (3 : Int32)))])) (fun X t q => XS.iand X.here C.hx rfl (hb C.hby at_2) rfl q) ?_
  refine Wl.st (g' := (mkF m 4 #[.val (.int i0), .val (.int i1), .val (.int i2), .val (.int i3), .val (.int i4), .val (.int i5), .unset, .unset, .unset, .unset, .unset, .unset, .unset, .unset, .unset] [(.int (3 : Int32)), (.int (i1 &&& (3 : Int32)))])) (fun X t q => XS.iconst X.here C.hx rfl (hb C.hby at_3) q) ?_
  refine Wl.st (g' := (mkF m 5 #[.val (.int i0), .val (.int i1), .val (.int i2), .val (.int i3), .val (.int i4), .val (.int i5), .unset, .unset, .unset, .unset, .unset, .unset, .unset, .unset, .unset] [(.int ((i1 &&& (3 : Int32)) % (3 : Int32)))])) (fun X t q => iremM X C.hx rfl (hb C.hby at_4) rfl (by decide) q) ?_
  refine Wl.st (g' := (mkF m 7 #[.val (.int i0), .val (.int i1), .val (.int i2), .val (.int i3), .val (.int i4), .val (.int i5), .val (.int ((i1 &&& (3 : Int32)) % (3 : Int32))), .unset, .unset, .unset, .unset, .unset, .unset, .unset, .unset] [])) (fun X t q => XS.istore X.here C.hx rfl (hb C.hby at_5) rfl (l' := #[.val (.int i0), .val (.int i1), .val (.int i2), .val (.int i3), .val (.int i4), .val (.int i5), .val (.int ((i1 &&& (3 : Int32)) % (3 : Int32))), .unset, .unset, .unset, .unset, .unset, .unset, .unset, .unset]) rfl q) ?_
  obtain ⟨kk, hkk⟩ : ∃ z, z = ((i1 &&& (3 : Int32)) % (3 : Int32)) := ⟨_, rfl⟩
  rw [← hkk]
  have rkk : kk = 0 ∨ kk = 1 ∨ kk = 2 := by rw [hkk]; exact rem3 _
  show Wl Z p l e _ s m _ below meth c n0 _ lt h0 0 0 (mkF m 7 #[.val (.int i0), .val (.int i1), .val (.int i2), .val (.int i3), .val (.int i4), .val (.int i5), .val (.int kk), .unset, .unset, .unset, .unset, .unset, .unset, .unset, .unset] [])
  refine Wl.ild C at_7 rfl ?_
  refine Wl.st (g' := (mkF m 10 #[.val (.int i0), .val (.int i1), .val (.int i2), .val (.int i3), .val (.int i4), .val (.int i5), .val (.int kk), .unset, .unset, .unset, .unset, .unset, .unset, .unset, .unset] [(.int (10 : Int32)), (.int i1)])) (fun X t q => XS.bipush X.here C.hx rfl (hb C.hby at_8) q) ?_
  refine Wl.st (g' := (mkF m 11 #[.val (.int i0), .val (.int i1), .val (.int i2), .val (.int i3), .val (.int i4), .val (.int i5), .val (.int kk), .unset, .unset, .unset, .unset, .unset, .unset, .unset, .unset] [(.int ((i1.toUInt32 >>> ((10 : Int32) &&& 31).toUInt32).toInt32))])) (fun X t q => XS.iushr X.here C.hx rfl (hb C.hby at_10) rfl q) ?_
  refine Wl.st (g' := (mkF m 12 #[.val (.int i0), .val (.int i1), .val (.int i2), .val (.int i3), .val (.int i4), .val (.int i5), .val (.int kk), .unset, .unset, .unset, .unset, .unset, .unset, .unset, .unset] [(.int (3 : Int32)), (.int ((i1.toUInt32 >>> ((10 : Int32) &&& 31).toUInt32).toInt32))])) (fun X t q => XS.iconst X.here C.hx rfl (hb C.hby at_11) q) ?_
  refine Wl.st (g' := (mkF m 13 #[.val (.int i0), .val (.int i1), .val (.int i2), .val (.int i3), .val (.int i4), .val (.int i5), .val (.int kk), .unset, .unset, .unset, .unset, .unset, .unset, .unset, .unset] [(.int (((i1.toUInt32 >>> ((10 : Int32) &&& 31).toUInt32).toInt32) &&& (3 : Int32)))])) (fun X t q => XS.iand X.here C.hx rfl (hb C.hby at_12) rfl q) ?_
  refine Wl.st (g' := (mkF m 14 #[.val (.int i0), .val (.int i1), .val (.int i2), .val (.int i3), .val (.int i4), .val (.int i5), .val (.int kk), .unset, .unset, .unset, .unset, .unset, .unset, .unset, .unset] [(.int (3 : Int32)), (.int (((i1.toUInt32 >>> ((10 : Int32) &&& 31).toUInt32).toInt32) &&& (3 : Int32)))])) (fun X t q => XS.iconst X.here C.hx rfl (hb C.hby at_13) q) ?_
  refine Wl.st (g' := (mkF m 15 #[.val (.int i0), .val (.int i1), .val (.int i2), .val (.int i3), .val (.int i4), .val (.int i5), .val (.int kk), .unset, .unset, .unset, .unset, .unset, .unset, .unset, .unset] [(.int ((((i1.toUInt32 >>> ((10 : Int32) &&& 31).toUInt32).toInt32) &&& (3 : Int32)) % (3 : Int32)))])) (fun X t q => iremM X C.hx rfl (hb C.hby at_14) rfl (by decide) q) ?_
  refine Wl.st (g' := (mkF m 17 #[.val (.int i0), .val (.int i1), .val (.int i2), .val (.int i3), .val (.int i4), .val (.int i5), .val (.int kk), .val (.int ((((i1.toUInt32 >>> ((10 : Int32) &&& 31).toUInt32).toInt32) &&& (3 : Int32)) % (3 : Int32))), .unset, .unset, .unset, .unset, .unset, .unset, .unset] [])) (fun X t q => XS.istore X.here C.hx rfl (hb C.hby at_15) rfl (l' := #[.val (.int i0), .val (.int i1), .val (.int i2), .val (.int i3), .val (.int i4), .val (.int i5), .val (.int kk), .val (.int ((((i1.toUInt32 >>> ((10 : Int32) &&& 31).toUInt32).toInt32) &&& (3 : Int32)) % (3 : Int32))), .unset, .unset, .unset, .unset, .unset, .unset, .unset]) rfl q) ?_
  obtain ⟨km, hkm⟩ : ∃ z, z = ((((i1.toUInt32 >>> ((10 : Int32) &&& 31).toUInt32).toInt32) &&& (3 : Int32)) % (3 : Int32)) := ⟨_, rfl⟩
  rw [← hkm]
  have rkm : km = 0 ∨ km = 1 ∨ km = 2 := by rw [hkm]; exact rem3 _
  show Wl Z p l e _ s m _ below meth c n0 _ lt h0 0 0 (mkF m 17 #[.val (.int i0), .val (.int i1), .val (.int i2), .val (.int i3), .val (.int i4), .val (.int i5), .val (.int kk), .val (.int km), .unset, .unset, .unset, .unset, .unset, .unset, .unset] [])
  refine Wl.ild C at_17 rfl ?_
  refine Wl.st (g' := (mkF m 19 #[.val (.int i0), .val (.int i1), .val (.int i2), .val (.int i3), .val (.int i4), .val (.int i5), .val (.int kk), .val (.int km), .unset, .unset, .unset, .unset, .unset, .unset, .unset] [(.int (2 : Int32)), (.int i1)])) (fun X t q => XS.iconst X.here C.hx rfl (hb C.hby at_18) q) ?_
  refine Wl.st (g' := (mkF m 20 #[.val (.int i0), .val (.int i1), .val (.int i2), .val (.int i3), .val (.int i4), .val (.int i5), .val (.int kk), .val (.int km), .unset, .unset, .unset, .unset, .unset, .unset, .unset] [(.int ((i1.toUInt32 >>> ((2 : Int32) &&& 31).toUInt32).toInt32))])) (fun X t q => XS.iushr X.here C.hx rfl (hb C.hby at_19) rfl q) ?_
  refine Wl.st (g' := (mkF m 21 #[.val (.int i0), .val (.int i1), .val (.int i2), .val (.int i3), .val (.int i4), .val (.int i5), .val (.int kk), .val (.int km), .unset, .unset, .unset, .unset, .unset, .unset, .unset] [(.int (3 : Int32)), (.int ((i1.toUInt32 >>> ((2 : Int32) &&& 31).toUInt32).toInt32))])) (fun X t q => XS.iconst X.here C.hx rfl (hb C.hby at_20) q) ?_
  refine Wl.st (g' := (mkF m 22 #[.val (.int i0), .val (.int i1), .val (.int i2), .val (.int i3), .val (.int i4), .val (.int i5), .val (.int kk), .val (.int km), .unset, .unset, .unset, .unset, .unset, .unset, .unset] [(.int (((i1.toUInt32 >>> ((2 : Int32) &&& 31).toUInt32).toInt32) &&& (3 : Int32)))])) (fun X t q => XS.iand X.here C.hx rfl (hb C.hby at_21) rfl q) ?_
  refine Wl.ild C at_22 rfl ?_
  refine Wl.callS C (z := (⟨"com/example/amendatory/amendatory/BuilderClearPinLaw", "para", "(II)Ljava/lang/String;"⟩ : MethodName)) (wd hw 0) (wd hw 1) (wd hw 2) (wd hw 3) (by decide) (own_para l Z a0 hw n0 h0 lt (Nat.le_trans hsz (ext_refl h0).1) (ext_trans EZ (ext_refl h0)) LO HD0 cs (SC.ext (ext_refl h0)) hcs (((i1.toUInt32 >>> ((2 : Int32) &&& 31).toUInt32).toInt32) &&& (3 : Int32)) i2 (and3 _)) (w := 0) (by decide) (by decide) pd_29 rfl (rest := []) rfl rfl (Nat.le_of_eq rfl) (by decide) (by decide) at_23 ?_
  rintro _ h_0 lt_0 ⟨y_0, vy_0, n_0, f_0, rfl, S_0, b_0, E_0, L_0⟩
  show Wl Z p l e _ s m _ below meth c n0 _ lt_0 h_0 3 10 (mkF m 26 #[.val (.int i0), .val (.int i1), .val (.int i2), .val (.int i3), .val (.int i4), .val (.int i5), .val (.int kk), .val (.int km), .unset, .unset, .unset, .unset, .unset, .unset, .unset] [(.ref y_0)])
  have EA_0 : Ext h0 h_0 := ext_trans (ext_refl h0) E_0
  refine Wl.st (g' := (mkF m 28 #[.val (.int i0), .val (.int i1), .val (.int i2), .val (.int i3), .val (.int i4), .val (.int i5), .val (.int kk), .val (.int km), .val (.ref y_0), .unset, .unset, .unset, .unset, .unset, .unset] [])) (fun X t q => XS.astore X.here C.hx rfl (hb C.hby at_26) rfl rfl (l' := #[.val (.int i0), .val (.int i1), .val (.int i2), .val (.int i3), .val (.int i4), .val (.int i5), .val (.int kk), .val (.int km), .val (.ref y_0), .unset, .unset, .unset, .unset, .unset, .unset]) rfl q) ?_
  refine Wl.ild C at_28 rfl ?_
  refine Wl.st (g' := (mkF m 30 #[.val (.int i0), .val (.int i1), .val (.int i2), .val (.int i3), .val (.int i4), .val (.int i5), .val (.int kk), .val (.int km), .val (.ref y_0), .unset, .unset, .unset, .unset, .unset, .unset] [(.int (4 : Int32)), (.int i1)])) (fun X t q => XS.iconst X.here C.hx rfl (hb C.hby at_29) q) ?_
  refine Wl.st (g' := (mkF m 31 #[.val (.int i0), .val (.int i1), .val (.int i2), .val (.int i3), .val (.int i4), .val (.int i5), .val (.int kk), .val (.int km), .val (.ref y_0), .unset, .unset, .unset, .unset, .unset, .unset] [(.int ((i1.toUInt32 >>> ((4 : Int32) &&& 31).toUInt32).toInt32))])) (fun X t q => XS.iushr X.here C.hx rfl (hb C.hby at_30) rfl q) ?_
  refine Wl.st (g' := (mkF m 32 #[.val (.int i0), .val (.int i1), .val (.int i2), .val (.int i3), .val (.int i4), .val (.int i5), .val (.int kk), .val (.int km), .val (.ref y_0), .unset, .unset, .unset, .unset, .unset, .unset] [(.int (3 : Int32)), (.int ((i1.toUInt32 >>> ((4 : Int32) &&& 31).toUInt32).toInt32))])) (fun X t q => XS.iconst X.here C.hx rfl (hb C.hby at_31) q) ?_
  refine Wl.st (g' := (mkF m 33 #[.val (.int i0), .val (.int i1), .val (.int i2), .val (.int i3), .val (.int i4), .val (.int i5), .val (.int kk), .val (.int km), .val (.ref y_0), .unset, .unset, .unset, .unset, .unset, .unset] [(.int (((i1.toUInt32 >>> ((4 : Int32) &&& 31).toUInt32).toInt32) &&& (3 : Int32)))])) (fun X t q => XS.iand X.here C.hx rfl (hb C.hby at_32) rfl q) ?_
  refine Wl.ild C at_33 rfl ?_
  refine Wl.callS C (z := (⟨"com/example/amendatory/amendatory/BuilderClearPinLaw", "para", "(II)Ljava/lang/String;"⟩ : MethodName)) (wd hw 0) (wd hw 1) (wd hw 2) (wd hw 3) (by decide) (own_para l Z a0 hw n0 h_0 lt_0 (Nat.le_trans hsz EA_0.1) (ext_trans EZ EA_0) L_0 HD0 cs (SC.ext EA_0) hcs (((i1.toUInt32 >>> ((4 : Int32) &&& 31).toUInt32).toInt32) &&& (3 : Int32)) i3 (and3 _)) (w := 0) (by decide) (by decide) pd_29 rfl (rest := []) rfl rfl (Nat.le_of_eq rfl) (by decide) (by decide) at_34 ?_
  rintro _ h_1 lt_1 ⟨y_1, vy_1, n_1, f_1, rfl, S_1, b_1, E_1, L_1⟩
  show Wl Z p l e _ s m _ below meth c n0 _ lt_1 h_1 6 20 (mkF m 37 #[.val (.int i0), .val (.int i1), .val (.int i2), .val (.int i3), .val (.int i4), .val (.int i5), .val (.int kk), .val (.int km), .val (.ref y_0), .unset, .unset, .unset, .unset, .unset, .unset] [(.ref y_1)])
  have EA_1 : Ext h0 h_1 := ext_trans EA_0 E_1
  have S1 := S_0.ext E_1
  refine Wl.st (g' := (mkF m 39 #[.val (.int i0), .val (.int i1), .val (.int i2), .val (.int i3), .val (.int i4), .val (.int i5), .val (.int kk), .val (.int km), .val (.ref y_0), .val (.ref y_1), .unset, .unset, .unset, .unset, .unset] [])) (fun X t q => XS.astore X.here C.hx rfl (hb C.hby at_37) rfl rfl (l' := #[.val (.int i0), .val (.int i1), .val (.int i2), .val (.int i3), .val (.int i4), .val (.int i5), .val (.int kk), .val (.int km), .val (.ref y_0), .val (.ref y_1), .unset, .unset, .unset, .unset, .unset]) rfl q) ?_
  refine Wl.ild C at_39 rfl ?_
  refine Wl.st (g' := (mkF m 42 #[.val (.int i0), .val (.int i1), .val (.int i2), .val (.int i3), .val (.int i4), .val (.int i5), .val (.int kk), .val (.int km), .val (.ref y_0), .val (.ref y_1), .unset, .unset, .unset, .unset, .unset] [(.int (6 : Int32)), (.int i1)])) (fun X t q => XS.bipush X.here C.hx rfl (hb C.hby at_40) q) ?_
  refine Wl.st (g' := (mkF m 43 #[.val (.int i0), .val (.int i1), .val (.int i2), .val (.int i3), .val (.int i4), .val (.int i5), .val (.int kk), .val (.int km), .val (.ref y_0), .val (.ref y_1), .unset, .unset, .unset, .unset, .unset] [(.int ((i1.toUInt32 >>> ((6 : Int32) &&& 31).toUInt32).toInt32))])) (fun X t q => XS.iushr X.here C.hx rfl (hb C.hby at_42) rfl q) ?_
  refine Wl.st (g' := (mkF m 44 #[.val (.int i0), .val (.int i1), .val (.int i2), .val (.int i3), .val (.int i4), .val (.int i5), .val (.int kk), .val (.int km), .val (.ref y_0), .val (.ref y_1), .unset, .unset, .unset, .unset, .unset] [(.int (3 : Int32)), (.int ((i1.toUInt32 >>> ((6 : Int32) &&& 31).toUInt32).toInt32))])) (fun X t q => XS.iconst X.here C.hx rfl (hb C.hby at_43) q) ?_
  refine Wl.st (g' := (mkF m 45 #[.val (.int i0), .val (.int i1), .val (.int i2), .val (.int i3), .val (.int i4), .val (.int i5), .val (.int kk), .val (.int km), .val (.ref y_0), .val (.ref y_1), .unset, .unset, .unset, .unset, .unset] [(.int (((i1.toUInt32 >>> ((6 : Int32) &&& 31).toUInt32).toInt32) &&& (3 : Int32)))])) (fun X t q => XS.iand X.here C.hx rfl (hb C.hby at_44) rfl q) ?_
  refine Wl.ildW C at_45 rfl ?_
  refine Wl.callS C (z := (⟨"com/example/amendatory/amendatory/BuilderClearPinLaw", "para", "(II)Ljava/lang/String;"⟩ : MethodName)) (wd hw 0) (wd hw 1) (wd hw 2) (wd hw 3) (by decide) (own_para l Z a0 hw n0 h_1 lt_1 (Nat.le_trans hsz EA_1.1) (ext_trans EZ EA_1) L_1 HD0 cs (SC.ext EA_1) hcs (((i1.toUInt32 >>> ((6 : Int32) &&& 31).toUInt32).toInt32) &&& (3 : Int32)) i4 (and3 _)) (w := 0) (by decide) (by decide) pd_29 rfl (rest := []) rfl rfl (Nat.le_of_eq rfl) (by decide) (by decide) at_47 ?_
  rintro _ h_2 lt_2 ⟨y_2, vy_2, n_2, f_2, rfl, S_2, b_2, E_2, L_2⟩
  show Wl Z p l e _ s m _ below meth c n0 _ lt_2 h_2 9 30 (mkF m 50 #[.val (.int i0), .val (.int i1), .val (.int i2), .val (.int i3), .val (.int i4), .val (.int i5), .val (.int kk), .val (.int km), .val (.ref y_0), .val (.ref y_1), .unset, .unset, .unset, .unset, .unset] [(.ref y_2)])
  have EA_2 : Ext h0 h_2 := ext_trans EA_1 E_2
  have S2 := S1.ext E_2
  have S3 := S_1.ext E_2
  refine Wl.st (g' := (mkF m 52 #[.val (.int i0), .val (.int i1), .val (.int i2), .val (.int i3), .val (.int i4), .val (.int i5), .val (.int kk), .val (.int km), .val (.ref y_0), .val (.ref y_1), .val (.ref y_2), .unset, .unset, .unset, .unset] [])) (fun X t q => XS.astore X.here C.hx rfl (hb C.hby at_50) rfl rfl (l' := #[.val (.int i0), .val (.int i1), .val (.int i2), .val (.int i3), .val (.int i4), .val (.int i5), .val (.int kk), .val (.int km), .val (.ref y_0), .val (.ref y_1), .val (.ref y_2), .unset, .unset, .unset, .unset]) rfl q) ?_
  refine Wl.ild C at_52 rfl ?_
  refine Wl.st (g' := (mkF m 55 #[.val (.int i0), .val (.int i1), .val (.int i2), .val (.int i3), .val (.int i4), .val (.int i5), .val (.int kk), .val (.int km), .val (.ref y_0), .val (.ref y_1), .val (.ref y_2), .unset, .unset, .unset, .unset] [(.int (8 : Int32)), (.int i1)])) (fun X t q => XS.bipush X.here C.hx rfl (hb C.hby at_53) q) ?_
  refine Wl.st (g' := (mkF m 56 #[.val (.int i0), .val (.int i1), .val (.int i2), .val (.int i3), .val (.int i4), .val (.int i5), .val (.int kk), .val (.int km), .val (.ref y_0), .val (.ref y_1), .val (.ref y_2), .unset, .unset, .unset, .unset] [(.int ((i1.toUInt32 >>> ((8 : Int32) &&& 31).toUInt32).toInt32))])) (fun X t q => XS.iushr X.here C.hx rfl (hb C.hby at_55) rfl q) ?_
  refine Wl.st (g' := (mkF m 57 #[.val (.int i0), .val (.int i1), .val (.int i2), .val (.int i3), .val (.int i4), .val (.int i5), .val (.int kk), .val (.int km), .val (.ref y_0), .val (.ref y_1), .val (.ref y_2), .unset, .unset, .unset, .unset] [(.int (3 : Int32)), (.int ((i1.toUInt32 >>> ((8 : Int32) &&& 31).toUInt32).toInt32))])) (fun X t q => XS.iconst X.here C.hx rfl (hb C.hby at_56) q) ?_
  refine Wl.st (g' := (mkF m 58 #[.val (.int i0), .val (.int i1), .val (.int i2), .val (.int i3), .val (.int i4), .val (.int i5), .val (.int kk), .val (.int km), .val (.ref y_0), .val (.ref y_1), .val (.ref y_2), .unset, .unset, .unset, .unset] [(.int (((i1.toUInt32 >>> ((8 : Int32) &&& 31).toUInt32).toInt32) &&& (3 : Int32)))])) (fun X t q => XS.iand X.here C.hx rfl (hb C.hby at_57) rfl q) ?_
  refine Wl.ildW C at_58 rfl ?_
  refine Wl.callS C (z := (⟨"com/example/amendatory/amendatory/BuilderClearPinLaw", "para", "(II)Ljava/lang/String;"⟩ : MethodName)) (wd hw 0) (wd hw 1) (wd hw 2) (wd hw 3) (by decide) (own_para l Z a0 hw n0 h_2 lt_2 (Nat.le_trans hsz EA_2.1) (ext_trans EZ EA_2) L_2 HD0 cs (SC.ext EA_2) hcs (((i1.toUInt32 >>> ((8 : Int32) &&& 31).toUInt32).toInt32) &&& (3 : Int32)) i5 (and3 _)) (w := 0) (by decide) (by decide) pd_29 rfl (rest := []) rfl rfl (Nat.le_of_eq rfl) (by decide) (by decide) at_60 ?_
  rintro _ h_3 lt_3 ⟨y_3, vy_3, n_3, f_3, rfl, S_3, b_3, E_3, L_3⟩
  show Wl Z p l e _ s m _ below meth c n0 _ lt_3 h_3 12 40 (mkF m 63 #[.val (.int i0), .val (.int i1), .val (.int i2), .val (.int i3), .val (.int i4), .val (.int i5), .val (.int kk), .val (.int km), .val (.ref y_0), .val (.ref y_1), .val (.ref y_2), .unset, .unset, .unset, .unset] [(.ref y_3)])
  have EA_3 : Ext h0 h_3 := ext_trans EA_2 E_3
  have S4 := S2.ext E_3
  have S5 := S3.ext E_3
  have S6 := S_2.ext E_3
  refine Wl.st (g' := (mkF m 65 #[.val (.int i0), .val (.int i1), .val (.int i2), .val (.int i3), .val (.int i4), .val (.int i5), .val (.int kk), .val (.int km), .val (.ref y_0), .val (.ref y_1), .val (.ref y_2), .val (.ref y_3), .unset, .unset, .unset] [])) (fun X t q => XS.astore X.here C.hx rfl (hb C.hby at_63) rfl rfl (l' := #[.val (.int i0), .val (.int i1), .val (.int i2), .val (.int i3), .val (.int i4), .val (.int i5), .val (.int kk), .val (.int km), .val (.ref y_0), .val (.ref y_1), .val (.ref y_2), .val (.ref y_3), .unset, .unset, .unset]) rfl q) ?_
  have szS : n0 ≤ h_3.size := Nat.le_trans hsz EA_3.1
  refine Wl.newO C (wd hw 12) (wd hw 13) (wd hw 14) at_65 (by decide) (by decide) ?_
  intro h7 b8 g9 E10 A11 D12
  have ge13 : n0 ≤ b8 := Nat.le_trans szS (Nat.le_of_eq g9.symm)
  have gz14 : h_3.size ≤ b8 := Nat.le_trans (Nat.le_refl h_3.size) (Nat.le_of_eq g9.symm)
  have sz15 : n0 ≤ h7.size := Nat.le_trans szS E10.1
  have sy16 : h_3.size ≤ h7.size := Nat.le_trans (Nat.le_refl h_3.size) E10.1
  have K17 := (Keep.refl h_3 []).ext E10
  have F18 : Fld Z h7 b8 PB "bounds" "[I" .null := D12 (Or.inl (wd hw 24)) (ty := (.array .int)) (by decide)
  have F19 : Fld Z h7 b8 PB "characters" "I" (.int (0 : Int32)) := D12 (Or.inr (wd hw 26)) (ty := .int) (by decide)
  have F20 : Fld Z h7 b8 PB "count" "I" (.int (0 : Int32)) := D12 (Or.inl (wd hw 33)) (ty := .int) (by decide)
  have F21 : Fld Z h7 b8 PB "text" "Ljava/lang/StringBuilder;" .null := D12 (Or.inl (wd hw 43)) (ty := (.object SBN)) (by decide)
  show Wl Z p l e _ s m _ below meth c n0 _ lt_3 h7 13 45 (mkF m 68 #[.val (.int i0), .val (.int i1), .val (.int i2), .val (.int i3), .val (.int i4), .val (.int i5), .val (.int kk), .val (.int km), .val (.ref y_0), .val (.ref y_1), .val (.ref y_2), .val (.ref y_3), .unset, .unset, .unset] [(.ref b8)])
  refine Wl.dupS C at_68 rfl ?_
  refine Wl.ild C at_69 rfl ?_
  refine Wl.st (g' := (mkF m 72 #[.val (.int i0), .val (.int i1), .val (.int i2), .val (.int i3), .val (.int i4), .val (.int i5), .val (.int kk), .val (.int km), .val (.ref y_0), .val (.ref y_1), .val (.ref y_2), .val (.ref y_3), .unset, .unset, .unset] [(.int (63 : Int32)), (.int i0), (.ref b8), (.ref b8)])) (fun X t q => XS.bipush X.here C.hx rfl (hb C.hby at_70) q) ?_
  refine Wl.st (g' := (mkF m 73 #[.val (.int i0), .val (.int i1), .val (.int i2), .val (.int i3), .val (.int i4), .val (.int i5), .val (.int kk), .val (.int km), .val (.ref y_0), .val (.ref y_1), .val (.ref y_2), .val (.ref y_3), .unset, .unset, .unset] [(.int (i0 &&& (63 : Int32))), (.ref b8), (.ref b8)])) (fun X t q => XS.iand X.here C.hx rfl (hb C.hby at_72) rfl q) ?_
  obtain ⟨ch, hch, ech⟩ := and63 i0
  rw [show (i0 &&& (63 : Int32)) = (Int32.ofNat ch) from ech]
  show Wl Z p l e _ s m _ below meth c n0 _ lt_3 h7 13 45 (mkF m 73 #[.val (.int i0), .val (.int i1), .val (.int i2), .val (.int i3), .val (.int i4), .val (.int i5), .val (.int kk), .val (.int km), .val (.ref y_0), .val (.ref y_1), .val (.ref y_2), .val (.ref y_3), .unset, .unset, .unset] [(.int (Int32.ofNat ch)), (.ref b8), (.ref b8)])
  have gSb : h_3.size ≤ b8 := gz14
  have gb : n0 ≤ b8 := ge13
  refine Wl.callI C (z := (⟨PB, "<init>", "(I)V"⟩ : MethodName)) rfl (wd hw 15) (wd hw 16) (wd hw 14) (wd hw 17) (by decide) (Met.toL (own_bin l Z a0 hw n0 h7 b8 gb A11 F21 F18 F20 F19 ch nb f0 (NB.ext (ext_trans EA_3 (toExt K17))) (NA.ext (ext_trans EA_3 (toExt K17))) NI (Nat.ne_of_lt (Nat.lt_of_lt_of_le (NA.ext EA_3).lt gSb))) lt_3) (w := 1) (by decide) (by decide) pd_2 rfl (rest := [(.ref b8)]) rfl rfl (Nat.le_of_eq rfl) (by decide) (by decide) at_73 ?_
  rintro _ h22 lq ⟨⟨rfl, K23, B24⟩, elq⟩; rw [elq]
  show Wl Z p l e _ s m _ below meth c n0 _ lt_3 h22 13 45 (mkF m 76 #[.val (.int i0), .val (.int i1), .val (.int i2), .val (.int i3), .val (.int i4), .val (.int i5), .val (.int kk), .val (.int km), .val (.ref y_0), .val (.ref y_1), .val (.ref y_2), .val (.ref y_3), .unset, .unset, .unset] [(.ref b8)])
  have K25 : Keep h_3 h22 [] := K17.trans K23 (nvS (Or.inr gSb) nv0)
  refine Wl.st (g' := (mkF m 78 #[.val (.int i0), .val (.int i1), .val (.int i2), .val (.int i3), .val (.int i4), .val (.int i5), .val (.int kk), .val (.int km), .val (.ref y_0), .val (.ref y_1), .val (.ref y_2), .val (.ref y_3), .val (.ref b8), .unset, .unset] [])) (fun X t q => XS.astore X.here C.hx rfl (hb C.hby at_76) rfl rfl (l' := #[.val (.int i0), .val (.int i1), .val (.int i2), .val (.int i3), .val (.int i4), .val (.int i5), .val (.int kk), .val (.int km), .val (.ref y_0), .val (.ref y_1), .val (.ref y_2), .val (.ref y_3), .val (.ref b8), .unset, .unset]) rfl q) ?_
  rcases rkk with rfl | rfl | rfl
  · skip
    show Wl Z p l e _ s m _ below meth c n0 _ lt_3 h22 13 45 (mkF m 78 #[.val (.int i0), .val (.int i1), .val (.int i2), .val (.int i3), .val (.int i4), .val (.int i5), .val (.int (0 : Int32)), .val (.int km), .val (.ref y_0), .val (.ref y_1), .val (.ref y_2), .val (.ref y_3), .val (.ref b8), .unset, .unset] [])
    refine Wl.ildW C at_78 rfl ?_
    refine Wl.st (g' := (mkF m 81 #[.val (.int i0), .val (.int i1), .val (.int i2), .val (.int i3), .val (.int i4), .val (.int i5), .val (.int (0 : Int32)), .val (.int km), .val (.ref y_0), .val (.ref y_1), .val (.ref y_2), .val (.ref y_3), .val (.ref b8), .unset, .unset] [(.int (1 : Int32)), (.int (0 : Int32))])) (fun X t q => XS.iconst X.here C.hx rfl (hb C.hby at_80) q) ?_
    refine Wl.icY C (pc' := 92) at_81 (XT.ii_lt_t (by decide)) (by decide) (by decide) ?_
    refine Wl.ildW C at_92 rfl ?_
    refine Wl.st (g' := (mkF m 95 #[.val (.int i0), .val (.int i1), .val (.int i2), .val (.int i3), .val (.int i4), .val (.int i5), .val (.int (0 : Int32)), .val (.int km), .val (.ref y_0), .val (.ref y_1), .val (.ref y_2), .val (.ref y_3), .val (.ref b8), .unset, .unset] [(.int (2 : Int32)), (.int (0 : Int32))])) (fun X t q => XS.iconst X.here C.hx rfl (hb C.hby at_94) q) ?_
    refine Wl.icY C (pc' := 106) at_95 (XT.ii_lt_t (by decide)) (by decide) (by decide) ?_
    refine Wl.aldW C at_106 rfl rfl ?_
    refine Wl.callV C (x := (⟨PB, "build", "()Lcom/example/amendatory/amendatory/Paragraphs;"⟩ : MethodName)) (z := (⟨PB, "build", "()Lcom/example/amendatory/amendatory/Paragraphs;"⟩ : MethodName)) (K := PB) (wd hw 27) (wd hw 28) (wd hw 30) (wd hw 29) (wd hw 14) (wd hw 31) (by decide) (fun s' hZ' => notFace_of_selects (args := #[]) (mvT hZ' (wd hw 30))) B24.1 (Met.toL (own_bld0 l Z a0 hw n0 h22 b8 nn B24.2.1 (NN.ext (ext_trans EA_3 (toExt K25)))) lt_3) (w := 0) (by decide) (by decide) pd_40 rfl (rest := []) rfl rfl (Nat.le_of_eq rfl) (by decide) (by decide) at_108 ?_
    rintro _ _ lq ⟨⟨rfl, rfl⟩, elq⟩; rw [elq]
    show Wl Z p l e _ s m _ below meth c n0 _ lt_3 h22 13 45 (mkF m 111 #[.val (.int i0), .val (.int i1), .val (.int i2), .val (.int i3), .val (.int i4), .val (.int i5), .val (.int (0 : Int32)), .val (.int km), .val (.ref y_0), .val (.ref y_1), .val (.ref y_2), .val (.ref y_3), .val (.ref b8), .unset, .unset] [(.ref nn)])
    have BC1 := B24.clr (fun bd T => ⟨_, T⟩)
    refine Wl.st (g' := (mkF m 113 #[.val (.int i0), .val (.int i1), .val (.int i2), .val (.int i3), .val (.int i4), .val (.int i5), .val (.int (0 : Int32)), .val (.int km), .val (.ref y_0), .val (.ref y_1), .val (.ref y_2), .val (.ref y_3), .val (.ref b8), .val (.ref nn), .unset] [])) (fun X t q => XS.astore X.here C.hx rfl (hb C.hby at_111) rfl rfl (l' := #[.val (.int i0), .val (.int i1), .val (.int i2), .val (.int i3), .val (.int i4), .val (.int i5), .val (.int (0 : Int32)), .val (.int km), .val (.ref y_0), .val (.ref y_1), .val (.ref y_2), .val (.ref y_3), .val (.ref b8), .val (.ref nn), .unset]) rfl q) ?_
    refine Wl.aldW C at_113 rfl rfl ?_
    refine Wl.callV C (x := (⟨PB, "clear", "()V"⟩ : MethodName)) (z := (⟨PB, "clear", "()V"⟩ : MethodName)) (K := PB) (wd hw 37) (wd hw 38) (wd hw 40) (wd hw 39) (wd hw 14) (wd hw 41) (by decide) (fun s' hZ' => notFace_of_selects (args := #[]) (mvT hZ' (wd hw 40))) BC1.1 (Met.toL (own_clr l Z a0 hw n0 h22 b8 gb 0 ch BC1 nb f0 (NB.ext (ext_trans EA_3 (toExt K25))) (NA.ext (ext_trans EA_3 (toExt K25))) NI (Nat.ne_of_lt (Nat.lt_of_lt_of_le (NA.ext EA_3).lt gSb))) lt_3) (w := 0) (by decide) (by decide) pd_18 rfl (rest := []) rfl rfl (Nat.le_of_eq rfl) (by decide) (by decide) at_115 ?_
    rintro _ h26 lq ⟨⟨rfl, K27, B28⟩, elq⟩; rw [elq]
    show Wl Z p l e _ s m _ below meth c n0 _ lt_3 h26 13 45 (mkF m 118 #[.val (.int i0), .val (.int i1), .val (.int i2), .val (.int i3), .val (.int i4), .val (.int i5), .val (.int (0 : Int32)), .val (.int km), .val (.ref y_0), .val (.ref y_1), .val (.ref y_2), .val (.ref y_3), .val (.ref b8), .val (.ref nn), .unset] [])
    have KSC : Keep h_3 h26 [] := K25.trans K27 (nvS (Or.inr gSb) nv0)
    have szC : n0 ≤ h26.size := Nat.le_trans szS KSC.1
    rcases rkm with rfl | rfl | rfl
    · skip
      show Wl Z p l e _ s m _ below meth c n0 _ lt_3 h26 13 45 (mkF m 118 #[.val (.int i0), .val (.int i1), .val (.int i2), .val (.int i3), .val (.int i4), .val (.int i5), .val (.int (0 : Int32)), .val (.int (0 : Int32)), .val (.ref y_0), .val (.ref y_1), .val (.ref y_2), .val (.ref y_3), .val (.ref b8), .val (.ref nn), .unset] [])
      refine Wl.ildW C at_118 rfl ?_
      refine Wl.st (g' := (mkF m 121 #[.val (.int i0), .val (.int i1), .val (.int i2), .val (.int i3), .val (.int i4), .val (.int i5), .val (.int (0 : Int32)), .val (.int (0 : Int32)), .val (.ref y_0), .val (.ref y_1), .val (.ref y_2), .val (.ref y_3), .val (.ref b8), .val (.ref nn), .unset] [(.int (1 : Int32)), (.int (0 : Int32))])) (fun X t q => XS.iconst X.here C.hx rfl (hb C.hby at_120) q) ?_
      refine Wl.icY C (pc' := 132) at_121 (XT.ii_lt_t (by decide)) (by decide) (by decide) ?_
      refine Wl.ildW C at_132 rfl ?_
      refine Wl.st (g' := (mkF m 135 #[.val (.int i0), .val (.int i1), .val (.int i2), .val (.int i3), .val (.int i4), .val (.int i5), .val (.int (0 : Int32)), .val (.int (0 : Int32)), .val (.ref y_0), .val (.ref y_1), .val (.ref y_2), .val (.ref y_3), .val (.ref b8), .val (.ref nn), .unset] [(.int (2 : Int32)), (.int (0 : Int32))])) (fun X t q => XS.iconst X.here C.hx rfl (hb C.hby at_134) q) ?_
      refine Wl.icY C (pc' := 146) at_135 (XT.ii_lt_t (by decide)) (by decide) (by decide) ?_
      refine Wl.aldW C at_146 rfl rfl ?_
      refine Wl.callV C (x := (⟨PB, "build", "()Lcom/example/amendatory/amendatory/Paragraphs;"⟩ : MethodName)) (z := (⟨PB, "build", "()Lcom/example/amendatory/amendatory/Paragraphs;"⟩ : MethodName)) (K := PB) (wd hw 27) (wd hw 28) (wd hw 30) (wd hw 29) (wd hw 14) (wd hw 31) (by decide) (fun s' hZ' => notFace_of_selects (args := #[]) (mvT hZ' (wd hw 30))) B28.1 (Met.toL (own_bld0 l Z a0 hw n0 h26 b8 nn B28.2.1 (NN.ext (ext_trans EA_3 (toExt KSC)))) lt_3) (w := 0) (by decide) (by decide) pd_40 rfl (rest := []) rfl rfl (Nat.le_of_eq rfl) (by decide) (by decide) at_148 ?_
      rintro _ _ lq ⟨⟨rfl, rfl⟩, elq⟩; rw [elq]
      show Wl Z p l e _ s m _ below meth c n0 _ lt_3 h26 13 45 (mkF m 151 #[.val (.int i0), .val (.int i1), .val (.int i2), .val (.int i3), .val (.int i4), .val (.int i5), .val (.int (0 : Int32)), .val (.int (0 : Int32)), .val (.ref y_0), .val (.ref y_1), .val (.ref y_2), .val (.ref y_3), .val (.ref b8), .val (.ref nn), .unset] [(.ref nn)])
      refine Wl.st (g' := (mkF m 153 #[.val (.int i0), .val (.int i1), .val (.int i2), .val (.int i3), .val (.int i4), .val (.int i5), .val (.int (0 : Int32)), .val (.int (0 : Int32)), .val (.ref y_0), .val (.ref y_1), .val (.ref y_2), .val (.ref y_3), .val (.ref b8), .val (.ref nn), .val (.ref nn)] [])) (fun X t q => XS.astore X.here C.hx rfl (hb C.hby at_151) rfl rfl (l' := #[.val (.int i0), .val (.int i1), .val (.int i2), .val (.int i3), .val (.int i4), .val (.int i5), .val (.int (0 : Int32)), .val (.int (0 : Int32)), .val (.ref y_0), .val (.ref y_1), .val (.ref y_2), .val (.ref y_3), .val (.ref b8), .val (.ref nn), .val (.ref nn)]) rfl q) ?_
      refine Wl.aldW C at_153 rfl rfl ?_
      refine Wl.ildW C at_155 rfl ?_
      refine Wl.aldW C at_157 rfl rfl ?_
      refine Wl.aldW C at_159 rfl rfl ?_
      refine Wl.callS C (z := (⟨"com/example/amendatory/amendatory/BuilderClearPinLaw", "holds", "(Lcom/example/amendatory/amendatory/Paragraphs;ILjava/lang/String;Ljava/lang/String;)Z"⟩ : MethodName)) (wd hw 44) (wd hw 45) (wd hw 2) (wd hw 46) (by decide) (Met.toL (own_h0 l Z a0 hw n0 h26 nn y_0 y_1 (NP.ext (ext_trans EA_3 (toExt KSC)))) lt_3) (w := 0) (by decide) (by decide) pd_41 rfl (rest := []) rfl rfl (Nat.le_of_eq rfl) (by decide) (by decide) at_161 ?_
      rintro _ _ lq ⟨⟨rfl, rfl⟩, elq⟩; rw [elq]
      show Wl Z p l e _ s m _ below meth c n0 _ lt_3 h26 13 45 (mkF m 164 #[.val (.int i0), .val (.int i1), .val (.int i2), .val (.int i3), .val (.int i4), .val (.int i5), .val (.int (0 : Int32)), .val (.int (0 : Int32)), .val (.ref y_0), .val (.ref y_1), .val (.ref y_2), .val (.ref y_3), .val (.ref b8), .val (.ref nn), .val (.ref nn)] [(.int (1 : Int32))])
      refine Wl.ifN C at_164 (XT.i0_eq_f (by decide)) ?_
      refine Wl.aldW C at_167 rfl rfl ?_
      refine Wl.ildW C at_169 rfl ?_
      refine Wl.aldW C at_171 rfl rfl ?_
      refine Wl.aldW C at_173 rfl rfl ?_
      refine Wl.callS C (z := (⟨"com/example/amendatory/amendatory/BuilderClearPinLaw", "holds", "(Lcom/example/amendatory/amendatory/Paragraphs;ILjava/lang/String;Ljava/lang/String;)Z"⟩ : MethodName)) (wd hw 44) (wd hw 45) (wd hw 2) (wd hw 46) (by decide) (Met.toL (own_h0 l Z a0 hw n0 h26 nn y_2 y_3 (NP.ext (ext_trans EA_3 (toExt KSC)))) lt_3) (w := 0) (by decide) (by decide) pd_41 rfl (rest := []) rfl rfl (Nat.le_of_eq rfl) (by decide) (by decide) at_175 ?_
      rintro _ _ lq ⟨⟨rfl, rfl⟩, elq⟩; rw [elq]
      show Wl Z p l e _ s m _ below meth c n0 _ lt_3 h26 13 45 (mkF m 178 #[.val (.int i0), .val (.int i1), .val (.int i2), .val (.int i3), .val (.int i4), .val (.int i5), .val (.int (0 : Int32)), .val (.int (0 : Int32)), .val (.ref y_0), .val (.ref y_1), .val (.ref y_2), .val (.ref y_3), .val (.ref b8), .val (.ref nn), .val (.ref nn)] [(.int (1 : Int32))])
      refine Wl.ifN C at_178 (XT.i0_eq_f (by decide)) ?_
      refine Wl.st (g' := (mkF m 182 #[.val (.int i0), .val (.int i1), .val (.int i2), .val (.int i3), .val (.int i4), .val (.int i5), .val (.int (0 : Int32)), .val (.int (0 : Int32)), .val (.ref y_0), .val (.ref y_1), .val (.ref y_2), .val (.ref y_3), .val (.ref b8), .val (.ref nn), .val (.ref nn)] [(.int (1 : Int32))])) (fun X t q => XS.iconst X.here C.hx rfl (hb C.hby at_181) q) ?_
      refine Wl.gto C (pc' := 186) at_182 (by decide) (by decide) ?_
      exact Wl.retV C (t := .boolean) rfl rfl (Or.inl ⟨rfl, by simp, _, rfl⟩) at_186 (by decide) (by decide) rfl
    · skip
      show Wl Z p l e _ s m _ below meth c n0 _ lt_3 h26 13 45 (mkF m 118 #[.val (.int i0), .val (.int i1), .val (.int i2), .val (.int i3), .val (.int i4), .val (.int i5), .val (.int (0 : Int32)), .val (.int (1 : Int32)), .val (.ref y_0), .val (.ref y_1), .val (.ref y_2), .val (.ref y_3), .val (.ref b8), .val (.ref nn), .unset] [])
      refine Wl.ildW C at_118 rfl ?_
      refine Wl.st (g' := (mkF m 121 #[.val (.int i0), .val (.int i1), .val (.int i2), .val (.int i3), .val (.int i4), .val (.int i5), .val (.int (0 : Int32)), .val (.int (1 : Int32)), .val (.ref y_0), .val (.ref y_1), .val (.ref y_2), .val (.ref y_3), .val (.ref b8), .val (.ref nn), .unset] [(.int (1 : Int32)), (.int (1 : Int32))])) (fun X t q => XS.iconst X.here C.hx rfl (hb C.hby at_120) q) ?_
      refine Wl.icN C at_121 (XT.ii_lt_f (by decide)) ?_
      refine Wl.aldW C at_124 rfl rfl ?_
      refine Wl.aldW C at_126 rfl rfl ?_
      refine Wl.callV C (x := (⟨PB, "add", "(Ljava/lang/CharSequence;)Lcom/example/amendatory/amendatory/Paragraphs$Builder;"⟩ : MethodName)) (z := (⟨PB, "add", "(Ljava/lang/CharSequence;)Lcom/example/amendatory/amendatory/Paragraphs$Builder;"⟩ : MethodName)) (K := PB) (wd hw 79) (wd hw 80) (wd hw 82) (wd hw 81) (wd hw 14) (wd hw 83) (by decide) (fun s' hZ' => notFace_of_selects (args := #[]) (mvT hZ' (wd hw 82))) B28.1 (Met.toL (own_add l Z a0 hw n0 h26 cs (SC.ext (ext_trans EA_3 (toExt KSC))) hcs h26 (Keep.refl h26 [b8]).1 szC b8 gb 0 ch 0 (fun _ => .int 0) f0 (B28.imp (fun bd T => Or.inl ⟨T, rfl⟩)) y_2 vy_2 n_2 f_2 (S6.ext (toExt KSC)) (Nat.lt_of_lt_of_le S6.lt KSC.1) (Nat.lt_of_lt_of_le S6.ltv KSC.1) (Nat.ne_of_lt (Nat.lt_of_lt_of_le S6.lt gSb)) (Nat.ne_of_lt (Nat.lt_of_lt_of_le S6.ltv gSb)) (by omega) (by omega) (by omega) (by decide)) lt_3) (w := 0) (by decide) (by decide) pd_42 rfl (rest := []) rfl rfl (Nat.le_of_eq rfl) (by decide) (by decide) at_128 ?_
      rintro _ h29 lq ⟨⟨rfl, Q30, B31⟩, elq⟩; rw [elq]
      show Wl Z p l e _ s m _ below meth c n0 _ lt_3 h29 16 177 (mkF m 131 #[.val (.int i0), .val (.int i1), .val (.int i2), .val (.int i3), .val (.int i4), .val (.int i5), .val (.int (0 : Int32)), .val (.int (1 : Int32)), .val (.ref y_0), .val (.ref y_1), .val (.ref y_2), .val (.ref y_3), .val (.ref b8), .val (.ref nn), .unset] [(.ref b8)])
      have K32 : Keep h_3 h29 [] := Kq.all KSC Q30 KSC.1 gSb
      have K33 : Keep h26 h29 [b8] := Kq.keepb (Keep.refl h26 [b8]) Q30
      have B34 : BB Z h29 b8 1 2 (up (cpf f0 (fun _ => .int (0 : Int32)) 0 0 (0 + 1)) (0 + 1) (.int (Int32.ofNat (0 + n_2)))) ch (fun bd => Tq Z h29 h26 b8 bd (0 + n_2) (cat2 (fun _ => .int 0) f_2 0)) := B31
      refine Wl.popS C at_131 rfl ?_
      refine Wl.ildW C at_132 rfl ?_
      refine Wl.st (g' := (mkF m 135 #[.val (.int i0), .val (.int i1), .val (.int i2), .val (.int i3), .val (.int i4), .val (.int i5), .val (.int (0 : Int32)), .val (.int (1 : Int32)), .val (.ref y_0), .val (.ref y_1), .val (.ref y_2), .val (.ref y_3), .val (.ref b8), .val (.ref nn), .unset] [(.int (2 : Int32)), (.int (1 : Int32))])) (fun X t q => XS.iconst X.here C.hx rfl (hb C.hby at_134) q) ?_
      refine Wl.icY C (pc' := 146) at_135 (XT.ii_lt_t (by decide)) (by decide) (by decide) ?_
      refine Wl.aldW C at_146 rfl rfl ?_
      refine Wl.callV C (x := (⟨PB, "build", "()Lcom/example/amendatory/amendatory/Paragraphs;"⟩ : MethodName)) (z := (⟨PB, "build", "()Lcom/example/amendatory/amendatory/Paragraphs;"⟩ : MethodName)) (K := PB) (wd hw 27) (wd hw 28) (wd hw 30) (wd hw 29) (wd hw 14) (wd hw 31) (by decide) (fun s' hZ' => notFace_of_selects (args := #[]) (mvT hZ' (wd hw 30))) B34.1 (Met.toL (own_bld1 l Z a0 hw n0 h29 cs (SC.ext (ext_trans EA_3 (toExt K32))) hcs h26 b8 1 2 (0 + n_2) ch (cat2 (fun _ => .int 0) f_2 0) (up (cpf f0 (fun _ => .int (0 : Int32)) 0 0 (0 + 1)) (0 + 1) (.int (Int32.ofNat (0 + n_2)))) B34 (Nat.le_trans szS K32.1) (by decide) (by decide) (by omega)) lt_3) (w := 0) (by decide) (by decide) pd_40 rfl (rest := []) rfl rfl (Nat.le_of_eq rfl) (by decide) (by decide) at_148 ?_
      rintro _ h35 lq ⟨⟨qq36, xx37, vx38, bd39, rfl, K40, P41, g42, g43, g44, g45⟩, elq⟩; rw [elq]
      show Wl Z p l e _ s m _ below meth c n0 _ lt_3 h35 19 250 (mkF m 151 #[.val (.int i0), .val (.int i1), .val (.int i2), .val (.int i3), .val (.int i4), .val (.int i5), .val (.int (0 : Int32)), .val (.int (1 : Int32)), .val (.ref y_0), .val (.ref y_1), .val (.ref y_2), .val (.ref y_3), .val (.ref b8), .val (.ref nn), .unset] [(.ref qq36)])
      have ne46 : qq36 ∉ [b8] := nmS (Ne.symm (Nat.ne_of_lt (Nat.lt_of_lt_of_le B34.1.lt g42))) nm0
      have ne47 : xx37 ∉ [b8] := nmS (Ne.symm (Nat.ne_of_lt (Nat.lt_of_lt_of_le B34.1.lt g43))) nm0
      have ne48 : vx38 ∉ [b8] := nmS (Ne.symm (Nat.ne_of_lt (Nat.lt_of_lt_of_le B34.1.lt g44))) nm0
      have ne49 : bd39 ∉ [b8] := nmS g45 nm0
      have K50 : Keep h_3 h35 [] := K32.trans K40 nv0
      have K51 : Keep h26 h35 [b8] := K33.trans K40 nv0
      refine Wl.st (g' := (mkF m 153 #[.val (.int i0), .val (.int i1), .val (.int i2), .val (.int i3), .val (.int i4), .val (.int i5), .val (.int (0 : Int32)), .val (.int (1 : Int32)), .val (.ref y_0), .val (.ref y_1), .val (.ref y_2), .val (.ref y_3), .val (.ref b8), .val (.ref nn), .val (.ref qq36)] [])) (fun X t q => XS.astore X.here C.hx rfl (hb C.hby at_151) rfl rfl (l' := #[.val (.int i0), .val (.int i1), .val (.int i2), .val (.int i3), .val (.int i4), .val (.int i5), .val (.int (0 : Int32)), .val (.int (1 : Int32)), .val (.ref y_0), .val (.ref y_1), .val (.ref y_2), .val (.ref y_3), .val (.ref b8), .val (.ref nn), .val (.ref qq36)]) rfl q) ?_
      refine Wl.aldW C at_153 rfl rfl ?_
      refine Wl.ildW C at_155 rfl ?_
      refine Wl.aldW C at_157 rfl rfl ?_
      refine Wl.aldW C at_159 rfl rfl ?_
      refine Wl.callS C (z := (⟨"com/example/amendatory/amendatory/BuilderClearPinLaw", "holds", "(Lcom/example/amendatory/amendatory/Paragraphs;ILjava/lang/String;Ljava/lang/String;)Z"⟩ : MethodName)) (wd hw 44) (wd hw 45) (wd hw 2) (wd hw 46) (by decide) (Met.toL (own_h0 l Z a0 hw n0 h35 nn y_0 y_1 (NP.ext (ext_trans EA_3 (toExt K50)))) lt_3) (w := 0) (by decide) (by decide) pd_41 rfl (rest := []) rfl rfl (Nat.le_of_eq rfl) (by decide) (by decide) at_161 ?_
      rintro _ _ lq ⟨⟨rfl, rfl⟩, elq⟩; rw [elq]
      show Wl Z p l e _ s m _ below meth c n0 _ lt_3 h35 19 250 (mkF m 164 #[.val (.int i0), .val (.int i1), .val (.int i2), .val (.int i3), .val (.int i4), .val (.int i5), .val (.int (0 : Int32)), .val (.int (1 : Int32)), .val (.ref y_0), .val (.ref y_1), .val (.ref y_2), .val (.ref y_3), .val (.ref b8), .val (.ref nn), .val (.ref qq36)] [(.int (1 : Int32))])
      refine Wl.ifN C at_164 (XT.i0_eq_f (by decide)) ?_
      refine Wl.aldW C at_167 rfl rfl ?_
      refine Wl.ildW C at_169 rfl ?_
      refine Wl.aldW C at_171 rfl rfl ?_
      refine Wl.aldW C at_173 rfl rfl ?_
      refine Wl.callS C (z := (⟨"com/example/amendatory/amendatory/BuilderClearPinLaw", "holds", "(Lcom/example/amendatory/amendatory/Paragraphs;ILjava/lang/String;Ljava/lang/String;)Z"⟩ : MethodName)) (wd hw 44) (wd hw 45) (wd hw 2) (wd hw 46) (by decide) (own_h1 l Z a0 hw n0 h35 lt_3 (Nat.le_trans szS K50.1) (ext_trans EZ (ext_trans EA_3 (toExt K50))) (L_3.ext (toExt K50)) HD1 cs (SC.ext (ext_trans EA_3 (toExt K50))) hcs sv hr_sv (SV.ext (ext_trans EA_3 (toExt K50))) qq36 xx37 vx38 bd39 2 (0 + n_2) (cat2 (fun _ => .int 0) f_2 0) (up (cpf f0 (fun _ => .int (0 : Int32)) 0 0 (0 + 1)) (0 + 1) (.int (Int32.ofNat (0 + n_2)))) P41 y_2 vy_2 n_2 f_2 (S6.ext (toExt K50)) y_3 (by decide) (by decide) ((ffn_old (k := 0) (Nat.le_refl 0)).trans h00) ffn_new1 (by omega) (by omega) (fun i hi => cat_0 i)) (w := 0) (by decide) (by decide) pd_41 rfl (rest := []) rfl rfl (Nat.le_of_eq rfl) (by decide) (by decide) at_175 ?_
      rintro _ h52 lt53 ⟨rfl, E54, L55⟩
      show Wl Z p l e _ s m _ below meth c n0 _ lt53 h52 21 318 (mkF m 178 #[.val (.int i0), .val (.int i1), .val (.int i2), .val (.int i3), .val (.int i4), .val (.int i5), .val (.int (0 : Int32)), .val (.int (1 : Int32)), .val (.ref y_0), .val (.ref y_1), .val (.ref y_2), .val (.ref y_3), .val (.ref b8), .val (.ref nn), .val (.ref qq36)] [(.int (1 : Int32))])
      have K56 : Keep h_3 h52 [] := K50.ext E54
      refine Wl.ifN C at_178 (XT.i0_eq_f (by decide)) ?_
      refine Wl.st (g' := (mkF m 182 #[.val (.int i0), .val (.int i1), .val (.int i2), .val (.int i3), .val (.int i4), .val (.int i5), .val (.int (0 : Int32)), .val (.int (1 : Int32)), .val (.ref y_0), .val (.ref y_1), .val (.ref y_2), .val (.ref y_3), .val (.ref b8), .val (.ref nn), .val (.ref qq36)] [(.int (1 : Int32))])) (fun X t q => XS.iconst X.here C.hx rfl (hb C.hby at_181) q) ?_
      refine Wl.gto C (pc' := 186) at_182 (by decide) (by decide) ?_
      exact Wl.retV C (t := .boolean) rfl rfl (Or.inl ⟨rfl, by simp, _, rfl⟩) at_186 (by decide) (by decide) rfl
    · skip
      show Wl Z p l e _ s m _ below meth c n0 _ lt_3 h26 13 45 (mkF m 118 #[.val (.int i0), .val (.int i1), .val (.int i2), .val (.int i3), .val (.int i4), .val (.int i5), .val (.int (0 : Int32)), .val (.int (2 : Int32)), .val (.ref y_0), .val (.ref y_1), .val (.ref y_2), .val (.ref y_3), .val (.ref b8), .val (.ref nn), .unset] [])
      refine Wl.ildW C at_118 rfl ?_
      refine Wl.st (g' := (mkF m 121 #[.val (.int i0), .val (.int i1), .val (.int i2), .val (.int i3), .val (.int i4), .val (.int i5), .val (.int (0 : Int32)), .val (.int (2 : Int32)), .val (.ref y_0), .val (.ref y_1), .val (.ref y_2), .val (.ref y_3), .val (.ref b8), .val (.ref nn), .unset] [(.int (1 : Int32)), (.int (2 : Int32))])) (fun X t q => XS.iconst X.here C.hx rfl (hb C.hby at_120) q) ?_
      refine Wl.icN C at_121 (XT.ii_lt_f (by decide)) ?_
      refine Wl.aldW C at_124 rfl rfl ?_
      refine Wl.aldW C at_126 rfl rfl ?_
      refine Wl.callV C (x := (⟨PB, "add", "(Ljava/lang/CharSequence;)Lcom/example/amendatory/amendatory/Paragraphs$Builder;"⟩ : MethodName)) (z := (⟨PB, "add", "(Ljava/lang/CharSequence;)Lcom/example/amendatory/amendatory/Paragraphs$Builder;"⟩ : MethodName)) (K := PB) (wd hw 79) (wd hw 80) (wd hw 82) (wd hw 81) (wd hw 14) (wd hw 83) (by decide) (fun s' hZ' => notFace_of_selects (args := #[]) (mvT hZ' (wd hw 82))) B28.1 (Met.toL (own_add l Z a0 hw n0 h26 cs (SC.ext (ext_trans EA_3 (toExt KSC))) hcs h26 (Keep.refl h26 [b8]).1 szC b8 gb 0 ch 0 (fun _ => .int 0) f0 (B28.imp (fun bd T => Or.inl ⟨T, rfl⟩)) y_2 vy_2 n_2 f_2 (S6.ext (toExt KSC)) (Nat.lt_of_lt_of_le S6.lt KSC.1) (Nat.lt_of_lt_of_le S6.ltv KSC.1) (Nat.ne_of_lt (Nat.lt_of_lt_of_le S6.lt gSb)) (Nat.ne_of_lt (Nat.lt_of_lt_of_le S6.ltv gSb)) (by omega) (by omega) (by omega) (by decide)) lt_3) (w := 0) (by decide) (by decide) pd_42 rfl (rest := []) rfl rfl (Nat.le_of_eq rfl) (by decide) (by decide) at_128 ?_
      rintro _ h57 lq ⟨⟨rfl, Q58, B59⟩, elq⟩; rw [elq]
      show Wl Z p l e _ s m _ below meth c n0 _ lt_3 h57 16 177 (mkF m 131 #[.val (.int i0), .val (.int i1), .val (.int i2), .val (.int i3), .val (.int i4), .val (.int i5), .val (.int (0 : Int32)), .val (.int (2 : Int32)), .val (.ref y_0), .val (.ref y_1), .val (.ref y_2), .val (.ref y_3), .val (.ref b8), .val (.ref nn), .unset] [(.ref b8)])
      have K60 : Keep h_3 h57 [] := Kq.all KSC Q58 KSC.1 gSb
      have K61 : Keep h26 h57 [b8] := Kq.keepb (Keep.refl h26 [b8]) Q58
      have B62 : BB Z h57 b8 1 2 (up (cpf f0 (fun _ => .int (0 : Int32)) 0 0 (0 + 1)) (0 + 1) (.int (Int32.ofNat (0 + n_2)))) ch (fun bd => Tq Z h57 h26 b8 bd (0 + n_2) (cat2 (fun _ => .int 0) f_2 0)) := B59
      refine Wl.popS C at_131 rfl ?_
      refine Wl.ildW C at_132 rfl ?_
      refine Wl.st (g' := (mkF m 135 #[.val (.int i0), .val (.int i1), .val (.int i2), .val (.int i3), .val (.int i4), .val (.int i5), .val (.int (0 : Int32)), .val (.int (2 : Int32)), .val (.ref y_0), .val (.ref y_1), .val (.ref y_2), .val (.ref y_3), .val (.ref b8), .val (.ref nn), .unset] [(.int (2 : Int32)), (.int (2 : Int32))])) (fun X t q => XS.iconst X.here C.hx rfl (hb C.hby at_134) q) ?_
      refine Wl.icN C at_135 (XT.ii_lt_f (by decide)) ?_
      refine Wl.aldW C at_138 rfl rfl ?_
      refine Wl.aldW C at_140 rfl rfl ?_
      refine Wl.callV C (x := (⟨PB, "add", "(Ljava/lang/CharSequence;)Lcom/example/amendatory/amendatory/Paragraphs$Builder;"⟩ : MethodName)) (z := (⟨PB, "add", "(Ljava/lang/CharSequence;)Lcom/example/amendatory/amendatory/Paragraphs$Builder;"⟩ : MethodName)) (K := PB) (wd hw 79) (wd hw 80) (wd hw 82) (wd hw 81) (wd hw 14) (wd hw 83) (by decide) (fun s' hZ' => notFace_of_selects (args := #[]) (mvT hZ' (wd hw 82))) B62.1 (Met.toL (own_add l Z a0 hw n0 h57 cs (SC.ext (ext_trans EA_3 (toExt K60))) hcs h26 K61.1 szC b8 gb 1 ch (0 + n_2) (cat2 (fun _ => .int 0) f_2 0) (up (cpf f0 (fun _ => .int (0 : Int32)) 0 0 (0 + 1)) (0 + 1) (.int (Int32.ofNat (0 + n_2)))) (B62.imp (fun bd T => Or.inr T)) y_3 vy_3 n_3 f_3 (S_3.ext (toExt K60)) (Nat.lt_of_lt_of_le S_3.lt KSC.1) (Nat.lt_of_lt_of_le S_3.ltv KSC.1) (Nat.ne_of_lt (Nat.lt_of_lt_of_le S_3.lt gSb)) (Nat.ne_of_lt (Nat.lt_of_lt_of_le S_3.ltv gSb)) (by omega) (by omega) (by omega) (by decide)) lt_3) (w := 0) (by decide) (by decide) pd_42 rfl (rest := []) rfl rfl (Nat.le_of_eq rfl) (by decide) (by decide) at_142 ?_
      rintro _ h63 lq ⟨⟨rfl, Q64, B65⟩, elq⟩; rw [elq]
      show Wl Z p l e _ s m _ below meth c n0 _ lt_3 h63 19 309 (mkF m 145 #[.val (.int i0), .val (.int i1), .val (.int i2), .val (.int i3), .val (.int i4), .val (.int i5), .val (.int (0 : Int32)), .val (.int (2 : Int32)), .val (.ref y_0), .val (.ref y_1), .val (.ref y_2), .val (.ref y_3), .val (.ref b8), .val (.ref nn), .unset] [(.ref b8)])
      have K66 : Keep h_3 h63 [] := Kq.all K60 Q64 KSC.1 gSb
      have K67 : Keep h26 h63 [b8] := Kq.keepb K61 Q64
      have B68 : BB Z h63 b8 2 4 (up (cpf (up (cpf f0 (fun _ => .int (0 : Int32)) 0 0 (0 + 1)) (0 + 1) (.int (Int32.ofNat (0 + n_2)))) (fun _ => .int (0 : Int32)) 0 0 (1 + 1)) (1 + 1) (.int (Int32.ofNat ((0 + n_2) + n_3)))) ch (fun bd => Tq Z h63 h26 b8 bd ((0 + n_2) + n_3) (cat2 (cat2 (fun _ => .int 0) f_2 0) f_3 (0 + n_2))) := B65
      refine Wl.popS C at_145 rfl ?_
      refine Wl.aldW C at_146 rfl rfl ?_
      refine Wl.callV C (x := (⟨PB, "build", "()Lcom/example/amendatory/amendatory/Paragraphs;"⟩ : MethodName)) (z := (⟨PB, "build", "()Lcom/example/amendatory/amendatory/Paragraphs;"⟩ : MethodName)) (K := PB) (wd hw 27) (wd hw 28) (wd hw 30) (wd hw 29) (wd hw 14) (wd hw 31) (by decide) (fun s' hZ' => notFace_of_selects (args := #[]) (mvT hZ' (wd hw 30))) B68.1 (Met.toL (own_bld1 l Z a0 hw n0 h63 cs (SC.ext (ext_trans EA_3 (toExt K66))) hcs h26 b8 2 4 ((0 + n_2) + n_3) ch (cat2 (cat2 (fun _ => .int 0) f_2 0) f_3 (0 + n_2)) (up (cpf (up (cpf f0 (fun _ => .int (0 : Int32)) 0 0 (0 + 1)) (0 + 1) (.int (Int32.ofNat (0 + n_2)))) (fun _ => .int (0 : Int32)) 0 0 (1 + 1)) (1 + 1) (.int (Int32.ofNat ((0 + n_2) + n_3)))) B68 (Nat.le_trans szS K66.1) (by decide) (by decide) (by omega)) lt_3) (w := 0) (by decide) (by decide) pd_40 rfl (rest := []) rfl rfl (Nat.le_of_eq rfl) (by decide) (by decide) at_148 ?_
      rintro _ h69 lq ⟨⟨qq70, xx71, vx72, bd73, rfl, K74, P75, g76, g77, g78, g79⟩, elq⟩; rw [elq]
      show Wl Z p l e _ s m _ below meth c n0 _ lt_3 h69 22 382 (mkF m 151 #[.val (.int i0), .val (.int i1), .val (.int i2), .val (.int i3), .val (.int i4), .val (.int i5), .val (.int (0 : Int32)), .val (.int (2 : Int32)), .val (.ref y_0), .val (.ref y_1), .val (.ref y_2), .val (.ref y_3), .val (.ref b8), .val (.ref nn), .unset] [(.ref qq70)])
      have ne80 : qq70 ∉ [b8] := nmS (Ne.symm (Nat.ne_of_lt (Nat.lt_of_lt_of_le B68.1.lt g76))) nm0
      have ne81 : xx71 ∉ [b8] := nmS (Ne.symm (Nat.ne_of_lt (Nat.lt_of_lt_of_le B68.1.lt g77))) nm0
      have ne82 : vx72 ∉ [b8] := nmS (Ne.symm (Nat.ne_of_lt (Nat.lt_of_lt_of_le B68.1.lt g78))) nm0
      have ne83 : bd73 ∉ [b8] := nmS g79 nm0
      have K84 : Keep h_3 h69 [] := K66.trans K74 nv0
      have K85 : Keep h26 h69 [b8] := K67.trans K74 nv0
      refine Wl.st (g' := (mkF m 153 #[.val (.int i0), .val (.int i1), .val (.int i2), .val (.int i3), .val (.int i4), .val (.int i5), .val (.int (0 : Int32)), .val (.int (2 : Int32)), .val (.ref y_0), .val (.ref y_1), .val (.ref y_2), .val (.ref y_3), .val (.ref b8), .val (.ref nn), .val (.ref qq70)] [])) (fun X t q => XS.astore X.here C.hx rfl (hb C.hby at_151) rfl rfl (l' := #[.val (.int i0), .val (.int i1), .val (.int i2), .val (.int i3), .val (.int i4), .val (.int i5), .val (.int (0 : Int32)), .val (.int (2 : Int32)), .val (.ref y_0), .val (.ref y_1), .val (.ref y_2), .val (.ref y_3), .val (.ref b8), .val (.ref nn), .val (.ref qq70)]) rfl q) ?_
      refine Wl.aldW C at_153 rfl rfl ?_
      refine Wl.ildW C at_155 rfl ?_
      refine Wl.aldW C at_157 rfl rfl ?_
      refine Wl.aldW C at_159 rfl rfl ?_
      refine Wl.callS C (z := (⟨"com/example/amendatory/amendatory/BuilderClearPinLaw", "holds", "(Lcom/example/amendatory/amendatory/Paragraphs;ILjava/lang/String;Ljava/lang/String;)Z"⟩ : MethodName)) (wd hw 44) (wd hw 45) (wd hw 2) (wd hw 46) (by decide) (Met.toL (own_h0 l Z a0 hw n0 h69 nn y_0 y_1 (NP.ext (ext_trans EA_3 (toExt K84)))) lt_3) (w := 0) (by decide) (by decide) pd_41 rfl (rest := []) rfl rfl (Nat.le_of_eq rfl) (by decide) (by decide) at_161 ?_
      rintro _ _ lq ⟨⟨rfl, rfl⟩, elq⟩; rw [elq]
      show Wl Z p l e _ s m _ below meth c n0 _ lt_3 h69 22 382 (mkF m 164 #[.val (.int i0), .val (.int i1), .val (.int i2), .val (.int i3), .val (.int i4), .val (.int i5), .val (.int (0 : Int32)), .val (.int (2 : Int32)), .val (.ref y_0), .val (.ref y_1), .val (.ref y_2), .val (.ref y_3), .val (.ref b8), .val (.ref nn), .val (.ref qq70)] [(.int (1 : Int32))])
      refine Wl.ifN C at_164 (XT.i0_eq_f (by decide)) ?_
      refine Wl.aldW C at_167 rfl rfl ?_
      refine Wl.ildW C at_169 rfl ?_
      refine Wl.aldW C at_171 rfl rfl ?_
      refine Wl.aldW C at_173 rfl rfl ?_
      refine Wl.callS C (z := (⟨"com/example/amendatory/amendatory/BuilderClearPinLaw", "holds", "(Lcom/example/amendatory/amendatory/Paragraphs;ILjava/lang/String;Ljava/lang/String;)Z"⟩ : MethodName)) (wd hw 44) (wd hw 45) (wd hw 2) (wd hw 46) (by decide) (own_h2 l Z a0 hw n0 h69 lt_3 (Nat.le_trans szS K84.1) (ext_trans EZ (ext_trans EA_3 (toExt K84))) (L_3.ext (toExt K84)) HD1 cs (SC.ext (ext_trans EA_3 (toExt K84))) hcs sv hr_sv (SV.ext (ext_trans EA_3 (toExt K84))) qq70 xx71 vx72 bd73 4 ((0 + n_2) + n_3) (cat2 (cat2 (fun _ => .int 0) f_2 0) f_3 (0 + n_2)) (up (cpf (up (cpf f0 (fun _ => .int (0 : Int32)) 0 0 (0 + 1)) (0 + 1) (.int (Int32.ofNat (0 + n_2)))) (fun _ => .int (0 : Int32)) 0 0 (1 + 1)) (1 + 1) (.int (Int32.ofNat ((0 + n_2) + n_3)))) P75 y_2 vy_2 n_2 f_2 (S6.ext (toExt K84)) y_3 vy_3 n_3 f_3 (S_3.ext (toExt K84)) (by decide) (by decide) ((ffn_old (k := 1) (by decide)).trans ((ffn_old (k := 0) (Nat.le_refl 0)).trans h00)) ((ffn_old (k := 1) (by decide)).trans ffn_new1) ffn_new2 (by omega) (by omega) (fun i hi => cat_l hi) (fun i hi => cat_r)) (w := 0) (by decide) (by decide) pd_41 rfl (rest := []) rfl rfl (Nat.le_of_eq rfl) (by decide) (by decide) at_175 ?_
      rintro _ h86 lt87 ⟨rfl, E88, L89⟩
      show Wl Z p l e _ s m _ below meth c n0 _ lt87 h86 26 518 (mkF m 178 #[.val (.int i0), .val (.int i1), .val (.int i2), .val (.int i3), .val (.int i4), .val (.int i5), .val (.int (0 : Int32)), .val (.int (2 : Int32)), .val (.ref y_0), .val (.ref y_1), .val (.ref y_2), .val (.ref y_3), .val (.ref b8), .val (.ref nn), .val (.ref qq70)] [(.int (1 : Int32))])
      have K90 : Keep h_3 h86 [] := K84.ext E88
      refine Wl.ifN C at_178 (XT.i0_eq_f (by decide)) ?_
      refine Wl.st (g' := (mkF m 182 #[.val (.int i0), .val (.int i1), .val (.int i2), .val (.int i3), .val (.int i4), .val (.int i5), .val (.int (0 : Int32)), .val (.int (2 : Int32)), .val (.ref y_0), .val (.ref y_1), .val (.ref y_2), .val (.ref y_3), .val (.ref b8), .val (.ref nn), .val (.ref qq70)] [(.int (1 : Int32))])) (fun X t q => XS.iconst X.here C.hx rfl (hb C.hby at_181) q) ?_
      refine Wl.gto C (pc' := 186) at_182 (by decide) (by decide) ?_
      exact Wl.retV C (t := .boolean) rfl rfl (Or.inl ⟨rfl, by simp, _, rfl⟩) at_186 (by decide) (by decide) rfl
  · skip
    show Wl Z p l e _ s m _ below meth c n0 _ lt_3 h22 13 45 (mkF m 78 #[.val (.int i0), .val (.int i1), .val (.int i2), .val (.int i3), .val (.int i4), .val (.int i5), .val (.int (1 : Int32)), .val (.int km), .val (.ref y_0), .val (.ref y_1), .val (.ref y_2), .val (.ref y_3), .val (.ref b8), .unset, .unset] [])
    refine Wl.ildW C at_78 rfl ?_
    refine Wl.st (g' := (mkF m 81 #[.val (.int i0), .val (.int i1), .val (.int i2), .val (.int i3), .val (.int i4), .val (.int i5), .val (.int (1 : Int32)), .val (.int km), .val (.ref y_0), .val (.ref y_1), .val (.ref y_2), .val (.ref y_3), .val (.ref b8), .unset, .unset] [(.int (1 : Int32)), (.int (1 : Int32))])) (fun X t q => XS.iconst X.here C.hx rfl (hb C.hby at_80) q) ?_
    refine Wl.icN C at_81 (XT.ii_lt_f (by decide)) ?_
    refine Wl.aldW C at_84 rfl rfl ?_
    refine Wl.aldW C at_86 rfl rfl ?_
    refine Wl.callV C (x := (⟨PB, "add", "(Ljava/lang/CharSequence;)Lcom/example/amendatory/amendatory/Paragraphs$Builder;"⟩ : MethodName)) (z := (⟨PB, "add", "(Ljava/lang/CharSequence;)Lcom/example/amendatory/amendatory/Paragraphs$Builder;"⟩ : MethodName)) (K := PB) (wd hw 79) (wd hw 80) (wd hw 82) (wd hw 81) (wd hw 14) (wd hw 83) (by decide) (fun s' hZ' => notFace_of_selects (args := #[]) (mvT hZ' (wd hw 82))) B24.1 (Met.toL (own_add l Z a0 hw n0 h22 cs (SC.ext (ext_trans EA_3 (toExt K25))) hcs h_3 K25.1 szS b8 gb 0 ch 0 (fun _ => .int 0) f0 (B24.imp (fun bd T => Or.inl ⟨T, rfl⟩)) y_0 vy_0 n_0 f_0 (S4.ext (toExt K25)) S4.lt S4.ltv (Nat.ne_of_lt (Nat.lt_of_lt_of_le S4.lt gSb)) (Nat.ne_of_lt (Nat.lt_of_lt_of_le S4.ltv gSb)) (by omega) (by omega) (by omega) (by decide)) lt_3) (w := 0) (by decide) (by decide) pd_42 rfl (rest := []) rfl rfl (Nat.le_of_eq rfl) (by decide) (by decide) at_88 ?_
    rintro _ h91 lq ⟨⟨rfl, Q92, B93⟩, elq⟩; rw [elq]
    show Wl Z p l e _ s m _ below meth c n0 _ lt_3 h91 16 177 (mkF m 91 #[.val (.int i0), .val (.int i1), .val (.int i2), .val (.int i3), .val (.int i4), .val (.int i5), .val (.int (1 : Int32)), .val (.int km), .val (.ref y_0), .val (.ref y_1), .val (.ref y_2), .val (.ref y_3), .val (.ref b8), .unset, .unset] [(.ref b8)])
    have K94 : Keep h_3 h91 [] := Kq.all K25 Q92 (Nat.le_refl _) gSb
    have B95 : BB Z h91 b8 1 2 (up (cpf f0 (fun _ => .int (0 : Int32)) 0 0 (0 + 1)) (0 + 1) (.int (Int32.ofNat (0 + n_0)))) ch (fun bd => Tq Z h91 h_3 b8 bd (0 + n_0) (cat2 (fun _ => .int 0) f_0 0)) := B93
    refine Wl.popS C at_91 rfl ?_
    refine Wl.ildW C at_92 rfl ?_
    refine Wl.st (g' := (mkF m 95 #[.val (.int i0), .val (.int i1), .val (.int i2), .val (.int i3), .val (.int i4), .val (.int i5), .val (.int (1 : Int32)), .val (.int km), .val (.ref y_0), .val (.ref y_1), .val (.ref y_2), .val (.ref y_3), .val (.ref b8), .unset, .unset] [(.int (2 : Int32)), (.int (1 : Int32))])) (fun X t q => XS.iconst X.here C.hx rfl (hb C.hby at_94) q) ?_
    refine Wl.icY C (pc' := 106) at_95 (XT.ii_lt_t (by decide)) (by decide) (by decide) ?_
    refine Wl.aldW C at_106 rfl rfl ?_
    refine Wl.callV C (x := (⟨PB, "build", "()Lcom/example/amendatory/amendatory/Paragraphs;"⟩ : MethodName)) (z := (⟨PB, "build", "()Lcom/example/amendatory/amendatory/Paragraphs;"⟩ : MethodName)) (K := PB) (wd hw 27) (wd hw 28) (wd hw 30) (wd hw 29) (wd hw 14) (wd hw 31) (by decide) (fun s' hZ' => notFace_of_selects (args := #[]) (mvT hZ' (wd hw 30))) B95.1 (Met.toL (own_bld1 l Z a0 hw n0 h91 cs (SC.ext (ext_trans EA_3 (toExt K94))) hcs h_3 b8 1 2 (0 + n_0) ch (cat2 (fun _ => .int 0) f_0 0) (up (cpf f0 (fun _ => .int (0 : Int32)) 0 0 (0 + 1)) (0 + 1) (.int (Int32.ofNat (0 + n_0)))) B95 (Nat.le_trans szS K94.1) (by decide) (by decide) (by omega)) lt_3) (w := 0) (by decide) (by decide) pd_40 rfl (rest := []) rfl rfl (Nat.le_of_eq rfl) (by decide) (by decide) at_108 ?_
    rintro _ h96 lq ⟨⟨qq97, xx98, vx99, bd100, rfl, K101, P102, g103, g104, g105, g106⟩, elq⟩; rw [elq]
    show Wl Z p l e _ s m _ below meth c n0 _ lt_3 h96 19 250 (mkF m 111 #[.val (.int i0), .val (.int i1), .val (.int i2), .val (.int i3), .val (.int i4), .val (.int i5), .val (.int (1 : Int32)), .val (.int km), .val (.ref y_0), .val (.ref y_1), .val (.ref y_2), .val (.ref y_3), .val (.ref b8), .unset, .unset] [(.ref qq97)])
    have ne107 : qq97 ∉ [b8] := nmS (Ne.symm (Nat.ne_of_lt (Nat.lt_of_lt_of_le B95.1.lt g103))) nm0
    have ne108 : xx98 ∉ [b8] := nmS (Ne.symm (Nat.ne_of_lt (Nat.lt_of_lt_of_le B95.1.lt g104))) nm0
    have ne109 : vx99 ∉ [b8] := nmS (Ne.symm (Nat.ne_of_lt (Nat.lt_of_lt_of_le B95.1.lt g105))) nm0
    have ne110 : bd100 ∉ [b8] := nmS g106 nm0
    have K111 : Keep h_3 h96 [] := K94.trans K101 nv0
    have BC1 := (B95.clr (fun bd T => T.tv)).ext (toExt K101)
    refine Wl.st (g' := (mkF m 113 #[.val (.int i0), .val (.int i1), .val (.int i2), .val (.int i3), .val (.int i4), .val (.int i5), .val (.int (1 : Int32)), .val (.int km), .val (.ref y_0), .val (.ref y_1), .val (.ref y_2), .val (.ref y_3), .val (.ref b8), .val (.ref qq97), .unset] [])) (fun X t q => XS.astore X.here C.hx rfl (hb C.hby at_111) rfl rfl (l' := #[.val (.int i0), .val (.int i1), .val (.int i2), .val (.int i3), .val (.int i4), .val (.int i5), .val (.int (1 : Int32)), .val (.int km), .val (.ref y_0), .val (.ref y_1), .val (.ref y_2), .val (.ref y_3), .val (.ref b8), .val (.ref qq97), .unset]) rfl q) ?_
    refine Wl.aldW C at_113 rfl rfl ?_
    refine Wl.callV C (x := (⟨PB, "clear", "()V"⟩ : MethodName)) (z := (⟨PB, "clear", "()V"⟩ : MethodName)) (K := PB) (wd hw 37) (wd hw 38) (wd hw 40) (wd hw 39) (wd hw 14) (wd hw 41) (by decide) (fun s' hZ' => notFace_of_selects (args := #[]) (mvT hZ' (wd hw 40))) BC1.1 (Met.toL (own_clr l Z a0 hw n0 h96 b8 gb 1 ch BC1 nb f0 (NB.ext (ext_trans EA_3 (toExt K111))) (NA.ext (ext_trans EA_3 (toExt K111))) NI (Nat.ne_of_lt (Nat.lt_of_lt_of_le (NA.ext EA_3).lt gSb))) lt_3) (w := 0) (by decide) (by decide) pd_18 rfl (rest := []) rfl rfl (Nat.le_of_eq rfl) (by decide) (by decide) at_115 ?_
    rintro _ h112 lq ⟨⟨rfl, K113, B114⟩, elq⟩; rw [elq]
    show Wl Z p l e _ s m _ below meth c n0 _ lt_3 h112 19 250 (mkF m 118 #[.val (.int i0), .val (.int i1), .val (.int i2), .val (.int i3), .val (.int i4), .val (.int i5), .val (.int (1 : Int32)), .val (.int km), .val (.ref y_0), .val (.ref y_1), .val (.ref y_2), .val (.ref y_3), .val (.ref b8), .val (.ref qq97), .unset] [])
    have KSC : Keep h_3 h112 [] := K111.trans K113 (nvS (Or.inr gSb) nv0)
    have szC : n0 ≤ h112.size := Nat.le_trans szS KSC.1
    have P115 := P102.keep K113 ne107 ne108 ne109 ne110
    rcases rkm with rfl | rfl | rfl
    · skip
      show Wl Z p l e _ s m _ below meth c n0 _ lt_3 h112 19 250 (mkF m 118 #[.val (.int i0), .val (.int i1), .val (.int i2), .val (.int i3), .val (.int i4), .val (.int i5), .val (.int (1 : Int32)), .val (.int (0 : Int32)), .val (.ref y_0), .val (.ref y_1), .val (.ref y_2), .val (.ref y_3), .val (.ref b8), .val (.ref qq97), .unset] [])
      refine Wl.ildW C at_118 rfl ?_
      refine Wl.st (g' := (mkF m 121 #[.val (.int i0), .val (.int i1), .val (.int i2), .val (.int i3), .val (.int i4), .val (.int i5), .val (.int (1 : Int32)), .val (.int (0 : Int32)), .val (.ref y_0), .val (.ref y_1), .val (.ref y_2), .val (.ref y_3), .val (.ref b8), .val (.ref qq97), .unset] [(.int (1 : Int32)), (.int (0 : Int32))])) (fun X t q => XS.iconst X.here C.hx rfl (hb C.hby at_120) q) ?_
      refine Wl.icY C (pc' := 132) at_121 (XT.ii_lt_t (by decide)) (by decide) (by decide) ?_
      refine Wl.ildW C at_132 rfl ?_
      refine Wl.st (g' := (mkF m 135 #[.val (.int i0), .val (.int i1), .val (.int i2), .val (.int i3), .val (.int i4), .val (.int i5), .val (.int (1 : Int32)), .val (.int (0 : Int32)), .val (.ref y_0), .val (.ref y_1), .val (.ref y_2), .val (.ref y_3), .val (.ref b8), .val (.ref qq97), .unset] [(.int (2 : Int32)), (.int (0 : Int32))])) (fun X t q => XS.iconst X.here C.hx rfl (hb C.hby at_134) q) ?_
      refine Wl.icY C (pc' := 146) at_135 (XT.ii_lt_t (by decide)) (by decide) (by decide) ?_
      refine Wl.aldW C at_146 rfl rfl ?_
      refine Wl.callV C (x := (⟨PB, "build", "()Lcom/example/amendatory/amendatory/Paragraphs;"⟩ : MethodName)) (z := (⟨PB, "build", "()Lcom/example/amendatory/amendatory/Paragraphs;"⟩ : MethodName)) (K := PB) (wd hw 27) (wd hw 28) (wd hw 30) (wd hw 29) (wd hw 14) (wd hw 31) (by decide) (fun s' hZ' => notFace_of_selects (args := #[]) (mvT hZ' (wd hw 30))) B114.1 (Met.toL (own_bld0 l Z a0 hw n0 h112 b8 nn B114.2.1 (NN.ext (ext_trans EA_3 (toExt KSC)))) lt_3) (w := 0) (by decide) (by decide) pd_40 rfl (rest := []) rfl rfl (Nat.le_of_eq rfl) (by decide) (by decide) at_148 ?_
      rintro _ _ lq ⟨⟨rfl, rfl⟩, elq⟩; rw [elq]
      show Wl Z p l e _ s m _ below meth c n0 _ lt_3 h112 19 250 (mkF m 151 #[.val (.int i0), .val (.int i1), .val (.int i2), .val (.int i3), .val (.int i4), .val (.int i5), .val (.int (1 : Int32)), .val (.int (0 : Int32)), .val (.ref y_0), .val (.ref y_1), .val (.ref y_2), .val (.ref y_3), .val (.ref b8), .val (.ref qq97), .unset] [(.ref nn)])
      refine Wl.st (g' := (mkF m 153 #[.val (.int i0), .val (.int i1), .val (.int i2), .val (.int i3), .val (.int i4), .val (.int i5), .val (.int (1 : Int32)), .val (.int (0 : Int32)), .val (.ref y_0), .val (.ref y_1), .val (.ref y_2), .val (.ref y_3), .val (.ref b8), .val (.ref qq97), .val (.ref nn)] [])) (fun X t q => XS.astore X.here C.hx rfl (hb C.hby at_151) rfl rfl (l' := #[.val (.int i0), .val (.int i1), .val (.int i2), .val (.int i3), .val (.int i4), .val (.int i5), .val (.int (1 : Int32)), .val (.int (0 : Int32)), .val (.ref y_0), .val (.ref y_1), .val (.ref y_2), .val (.ref y_3), .val (.ref b8), .val (.ref qq97), .val (.ref nn)]) rfl q) ?_
      refine Wl.aldW C at_153 rfl rfl ?_
      refine Wl.ildW C at_155 rfl ?_
      refine Wl.aldW C at_157 rfl rfl ?_
      refine Wl.aldW C at_159 rfl rfl ?_
      refine Wl.callS C (z := (⟨"com/example/amendatory/amendatory/BuilderClearPinLaw", "holds", "(Lcom/example/amendatory/amendatory/Paragraphs;ILjava/lang/String;Ljava/lang/String;)Z"⟩ : MethodName)) (wd hw 44) (wd hw 45) (wd hw 2) (wd hw 46) (by decide) (own_h1 l Z a0 hw n0 h112 lt_3 (Nat.le_trans szS KSC.1) (ext_trans EZ (ext_trans EA_3 (toExt KSC))) (L_3.ext (toExt KSC)) HD1 cs (SC.ext (ext_trans EA_3 (toExt KSC))) hcs sv hr_sv (SV.ext (ext_trans EA_3 (toExt KSC))) qq97 xx98 vx99 bd100 2 (0 + n_0) (cat2 (fun _ => .int 0) f_0 0) (up (cpf f0 (fun _ => .int (0 : Int32)) 0 0 (0 + 1)) (0 + 1) (.int (Int32.ofNat (0 + n_0)))) (P115.keep (Keep.refl h112 [b8]) ne107 ne108 ne109 ne110) y_0 vy_0 n_0 f_0 (S4.ext (toExt KSC)) y_1 (by decide) (by decide) ((ffn_old (k := 0) (Nat.le_refl 0)).trans h00) ffn_new1 (by omega) (by omega) (fun i hi => cat_0 i)) (w := 0) (by decide) (by decide) pd_41 rfl (rest := []) rfl rfl (Nat.le_of_eq rfl) (by decide) (by decide) at_161 ?_
      rintro _ h116 lt117 ⟨rfl, E118, L119⟩
      show Wl Z p l e _ s m _ below meth c n0 _ lt117 h116 21 318 (mkF m 164 #[.val (.int i0), .val (.int i1), .val (.int i2), .val (.int i3), .val (.int i4), .val (.int i5), .val (.int (1 : Int32)), .val (.int (0 : Int32)), .val (.ref y_0), .val (.ref y_1), .val (.ref y_2), .val (.ref y_3), .val (.ref b8), .val (.ref qq97), .val (.ref nn)] [(.int (1 : Int32))])
      have K120 : Keep h_3 h116 [] := KSC.ext E118
      refine Wl.ifN C at_164 (XT.i0_eq_f (by decide)) ?_
      refine Wl.aldW C at_167 rfl rfl ?_
      refine Wl.ildW C at_169 rfl ?_
      refine Wl.aldW C at_171 rfl rfl ?_
      refine Wl.aldW C at_173 rfl rfl ?_
      refine Wl.callS C (z := (⟨"com/example/amendatory/amendatory/BuilderClearPinLaw", "holds", "(Lcom/example/amendatory/amendatory/Paragraphs;ILjava/lang/String;Ljava/lang/String;)Z"⟩ : MethodName)) (wd hw 44) (wd hw 45) (wd hw 2) (wd hw 46) (by decide) (Met.toL (own_h0 l Z a0 hw n0 h116 nn y_2 y_3 (NP.ext (ext_trans EA_3 (toExt K120)))) lt117) (w := 0) (by decide) (by decide) pd_41 rfl (rest := []) rfl rfl (Nat.le_of_eq rfl) (by decide) (by decide) at_175 ?_
      rintro _ _ lq ⟨⟨rfl, rfl⟩, elq⟩; rw [elq]
      show Wl Z p l e _ s m _ below meth c n0 _ lt117 h116 21 318 (mkF m 178 #[.val (.int i0), .val (.int i1), .val (.int i2), .val (.int i3), .val (.int i4), .val (.int i5), .val (.int (1 : Int32)), .val (.int (0 : Int32)), .val (.ref y_0), .val (.ref y_1), .val (.ref y_2), .val (.ref y_3), .val (.ref b8), .val (.ref qq97), .val (.ref nn)] [(.int (1 : Int32))])
      refine Wl.ifN C at_178 (XT.i0_eq_f (by decide)) ?_
      refine Wl.st (g' := (mkF m 182 #[.val (.int i0), .val (.int i1), .val (.int i2), .val (.int i3), .val (.int i4), .val (.int i5), .val (.int (1 : Int32)), .val (.int (0 : Int32)), .val (.ref y_0), .val (.ref y_1), .val (.ref y_2), .val (.ref y_3), .val (.ref b8), .val (.ref qq97), .val (.ref nn)] [(.int (1 : Int32))])) (fun X t q => XS.iconst X.here C.hx rfl (hb C.hby at_181) q) ?_
      refine Wl.gto C (pc' := 186) at_182 (by decide) (by decide) ?_
      exact Wl.retV C (t := .boolean) rfl rfl (Or.inl ⟨rfl, by simp, _, rfl⟩) at_186 (by decide) (by decide) rfl
    · skip
      show Wl Z p l e _ s m _ below meth c n0 _ lt_3 h112 19 250 (mkF m 118 #[.val (.int i0), .val (.int i1), .val (.int i2), .val (.int i3), .val (.int i4), .val (.int i5), .val (.int (1 : Int32)), .val (.int (1 : Int32)), .val (.ref y_0), .val (.ref y_1), .val (.ref y_2), .val (.ref y_3), .val (.ref b8), .val (.ref qq97), .unset] [])
      refine Wl.ildW C at_118 rfl ?_
      refine Wl.st (g' := (mkF m 121 #[.val (.int i0), .val (.int i1), .val (.int i2), .val (.int i3), .val (.int i4), .val (.int i5), .val (.int (1 : Int32)), .val (.int (1 : Int32)), .val (.ref y_0), .val (.ref y_1), .val (.ref y_2), .val (.ref y_3), .val (.ref b8), .val (.ref qq97), .unset] [(.int (1 : Int32)), (.int (1 : Int32))])) (fun X t q => XS.iconst X.here C.hx rfl (hb C.hby at_120) q) ?_
      refine Wl.icN C at_121 (XT.ii_lt_f (by decide)) ?_
      refine Wl.aldW C at_124 rfl rfl ?_
      refine Wl.aldW C at_126 rfl rfl ?_
      refine Wl.callV C (x := (⟨PB, "add", "(Ljava/lang/CharSequence;)Lcom/example/amendatory/amendatory/Paragraphs$Builder;"⟩ : MethodName)) (z := (⟨PB, "add", "(Ljava/lang/CharSequence;)Lcom/example/amendatory/amendatory/Paragraphs$Builder;"⟩ : MethodName)) (K := PB) (wd hw 79) (wd hw 80) (wd hw 82) (wd hw 81) (wd hw 14) (wd hw 83) (by decide) (fun s' hZ' => notFace_of_selects (args := #[]) (mvT hZ' (wd hw 82))) B114.1 (Met.toL (own_add l Z a0 hw n0 h112 cs (SC.ext (ext_trans EA_3 (toExt KSC))) hcs h112 (Keep.refl h112 [b8]).1 szC b8 gb 0 ch 0 (fun _ => .int 0) f0 (B114.imp (fun bd T => Or.inl ⟨T, rfl⟩)) y_2 vy_2 n_2 f_2 (S6.ext (toExt KSC)) (Nat.lt_of_lt_of_le S6.lt KSC.1) (Nat.lt_of_lt_of_le S6.ltv KSC.1) (Nat.ne_of_lt (Nat.lt_of_lt_of_le S6.lt gSb)) (Nat.ne_of_lt (Nat.lt_of_lt_of_le S6.ltv gSb)) (by omega) (by omega) (by omega) (by decide)) lt_3) (w := 0) (by decide) (by decide) pd_42 rfl (rest := []) rfl rfl (Nat.le_of_eq rfl) (by decide) (by decide) at_128 ?_
      rintro _ h121 lq ⟨⟨rfl, Q122, B123⟩, elq⟩; rw [elq]
      show Wl Z p l e _ s m _ below meth c n0 _ lt_3 h121 22 382 (mkF m 131 #[.val (.int i0), .val (.int i1), .val (.int i2), .val (.int i3), .val (.int i4), .val (.int i5), .val (.int (1 : Int32)), .val (.int (1 : Int32)), .val (.ref y_0), .val (.ref y_1), .val (.ref y_2), .val (.ref y_3), .val (.ref b8), .val (.ref qq97), .unset] [(.ref b8)])
      have K124 : Keep h_3 h121 [] := Kq.all KSC Q122 KSC.1 gSb
      have K125 : Keep h112 h121 [b8] := Kq.keepb (Keep.refl h112 [b8]) Q122
      have B126 : BB Z h121 b8 1 2 (up (cpf f0 (fun _ => .int (0 : Int32)) 0 0 (0 + 1)) (0 + 1) (.int (Int32.ofNat (0 + n_2)))) ch (fun bd => Tq Z h121 h112 b8 bd (0 + n_2) (cat2 (fun _ => .int 0) f_2 0)) := B123
      refine Wl.popS C at_131 rfl ?_
      refine Wl.ildW C at_132 rfl ?_
      refine Wl.st (g' := (mkF m 135 #[.val (.int i0), .val (.int i1), .val (.int i2), .val (.int i3), .val (.int i4), .val (.int i5), .val (.int (1 : Int32)), .val (.int (1 : Int32)), .val (.ref y_0), .val (.ref y_1), .val (.ref y_2), .val (.ref y_3), .val (.ref b8), .val (.ref qq97), .unset] [(.int (2 : Int32)), (.int (1 : Int32))])) (fun X t q => XS.iconst X.here C.hx rfl (hb C.hby at_134) q) ?_
      refine Wl.icY C (pc' := 146) at_135 (XT.ii_lt_t (by decide)) (by decide) (by decide) ?_
      refine Wl.aldW C at_146 rfl rfl ?_
      refine Wl.callV C (x := (⟨PB, "build", "()Lcom/example/amendatory/amendatory/Paragraphs;"⟩ : MethodName)) (z := (⟨PB, "build", "()Lcom/example/amendatory/amendatory/Paragraphs;"⟩ : MethodName)) (K := PB) (wd hw 27) (wd hw 28) (wd hw 30) (wd hw 29) (wd hw 14) (wd hw 31) (by decide) (fun s' hZ' => notFace_of_selects (args := #[]) (mvT hZ' (wd hw 30))) B126.1 (Met.toL (own_bld1 l Z a0 hw n0 h121 cs (SC.ext (ext_trans EA_3 (toExt K124))) hcs h112 b8 1 2 (0 + n_2) ch (cat2 (fun _ => .int 0) f_2 0) (up (cpf f0 (fun _ => .int (0 : Int32)) 0 0 (0 + 1)) (0 + 1) (.int (Int32.ofNat (0 + n_2)))) B126 (Nat.le_trans szS K124.1) (by decide) (by decide) (by omega)) lt_3) (w := 0) (by decide) (by decide) pd_40 rfl (rest := []) rfl rfl (Nat.le_of_eq rfl) (by decide) (by decide) at_148 ?_
      rintro _ h127 lq ⟨⟨qq128, xx129, vx130, bd131, rfl, K132, P133, g134, g135, g136, g137⟩, elq⟩; rw [elq]
      show Wl Z p l e _ s m _ below meth c n0 _ lt_3 h127 25 455 (mkF m 151 #[.val (.int i0), .val (.int i1), .val (.int i2), .val (.int i3), .val (.int i4), .val (.int i5), .val (.int (1 : Int32)), .val (.int (1 : Int32)), .val (.ref y_0), .val (.ref y_1), .val (.ref y_2), .val (.ref y_3), .val (.ref b8), .val (.ref qq97), .unset] [(.ref qq128)])
      have ne138 : qq128 ∉ [b8] := nmS (Ne.symm (Nat.ne_of_lt (Nat.lt_of_lt_of_le B126.1.lt g134))) nm0
      have ne139 : xx129 ∉ [b8] := nmS (Ne.symm (Nat.ne_of_lt (Nat.lt_of_lt_of_le B126.1.lt g135))) nm0
      have ne140 : vx130 ∉ [b8] := nmS (Ne.symm (Nat.ne_of_lt (Nat.lt_of_lt_of_le B126.1.lt g136))) nm0
      have ne141 : bd131 ∉ [b8] := nmS g137 nm0
      have K142 : Keep h_3 h127 [] := K124.trans K132 nv0
      have K143 : Keep h112 h127 [b8] := K125.trans K132 nv0
      refine Wl.st (g' := (mkF m 153 #[.val (.int i0), .val (.int i1), .val (.int i2), .val (.int i3), .val (.int i4), .val (.int i5), .val (.int (1 : Int32)), .val (.int (1 : Int32)), .val (.ref y_0), .val (.ref y_1), .val (.ref y_2), .val (.ref y_3), .val (.ref b8), .val (.ref qq97), .val (.ref qq128)] [])) (fun X t q => XS.astore X.here C.hx rfl (hb C.hby at_151) rfl rfl (l' := #[.val (.int i0), .val (.int i1), .val (.int i2), .val (.int i3), .val (.int i4), .val (.int i5), .val (.int (1 : Int32)), .val (.int (1 : Int32)), .val (.ref y_0), .val (.ref y_1), .val (.ref y_2), .val (.ref y_3), .val (.ref b8), .val (.ref qq97), .val (.ref qq128)]) rfl q) ?_
      refine Wl.aldW C at_153 rfl rfl ?_
      refine Wl.ildW C at_155 rfl ?_
      refine Wl.aldW C at_157 rfl rfl ?_
      refine Wl.aldW C at_159 rfl rfl ?_
      refine Wl.callS C (z := (⟨"com/example/amendatory/amendatory/BuilderClearPinLaw", "holds", "(Lcom/example/amendatory/amendatory/Paragraphs;ILjava/lang/String;Ljava/lang/String;)Z"⟩ : MethodName)) (wd hw 44) (wd hw 45) (wd hw 2) (wd hw 46) (by decide) (own_h1 l Z a0 hw n0 h127 lt_3 (Nat.le_trans szS K142.1) (ext_trans EZ (ext_trans EA_3 (toExt K142))) (L_3.ext (toExt K142)) HD1 cs (SC.ext (ext_trans EA_3 (toExt K142))) hcs sv hr_sv (SV.ext (ext_trans EA_3 (toExt K142))) qq97 xx98 vx99 bd100 2 (0 + n_0) (cat2 (fun _ => .int 0) f_0 0) (up (cpf f0 (fun _ => .int (0 : Int32)) 0 0 (0 + 1)) (0 + 1) (.int (Int32.ofNat (0 + n_0)))) (P115.keep K143 ne107 ne108 ne109 ne110) y_0 vy_0 n_0 f_0 (S4.ext (toExt K142)) y_1 (by decide) (by decide) ((ffn_old (k := 0) (Nat.le_refl 0)).trans h00) ffn_new1 (by omega) (by omega) (fun i hi => cat_0 i)) (w := 0) (by decide) (by decide) pd_41 rfl (rest := []) rfl rfl (Nat.le_of_eq rfl) (by decide) (by decide) at_161 ?_
      rintro _ h144 lt145 ⟨rfl, E146, L147⟩
      show Wl Z p l e _ s m _ below meth c n0 _ lt145 h144 27 523 (mkF m 164 #[.val (.int i0), .val (.int i1), .val (.int i2), .val (.int i3), .val (.int i4), .val (.int i5), .val (.int (1 : Int32)), .val (.int (1 : Int32)), .val (.ref y_0), .val (.ref y_1), .val (.ref y_2), .val (.ref y_3), .val (.ref b8), .val (.ref qq97), .val (.ref qq128)] [(.int (1 : Int32))])
      have K148 : Keep h_3 h144 [] := K142.ext E146
      refine Wl.ifN C at_164 (XT.i0_eq_f (by decide)) ?_
      refine Wl.aldW C at_167 rfl rfl ?_
      refine Wl.ildW C at_169 rfl ?_
      refine Wl.aldW C at_171 rfl rfl ?_
      refine Wl.aldW C at_173 rfl rfl ?_
      refine Wl.callS C (z := (⟨"com/example/amendatory/amendatory/BuilderClearPinLaw", "holds", "(Lcom/example/amendatory/amendatory/Paragraphs;ILjava/lang/String;Ljava/lang/String;)Z"⟩ : MethodName)) (wd hw 44) (wd hw 45) (wd hw 2) (wd hw 46) (by decide) (own_h1 l Z a0 hw n0 h144 lt145 (Nat.le_trans szS K148.1) (ext_trans EZ (ext_trans EA_3 (toExt K148))) L147 HD1 cs (SC.ext (ext_trans EA_3 (toExt K148))) hcs sv hr_sv (SV.ext (ext_trans EA_3 (toExt K148))) qq128 xx129 vx130 bd131 2 (0 + n_2) (cat2 (fun _ => .int 0) f_2 0) (up (cpf f0 (fun _ => .int (0 : Int32)) 0 0 (0 + 1)) (0 + 1) (.int (Int32.ofNat (0 + n_2)))) (P133.ext E146) y_2 vy_2 n_2 f_2 (S6.ext (toExt K148)) y_3 (by decide) (by decide) ((ffn_old (k := 0) (Nat.le_refl 0)).trans h00) ffn_new1 (by omega) (by omega) (fun i hi => cat_0 i)) (w := 0) (by decide) (by decide) pd_41 rfl (rest := []) rfl rfl (Nat.le_of_eq rfl) (by decide) (by decide) at_175 ?_
      rintro _ h149 lt150 ⟨rfl, E151, L152⟩
      show Wl Z p l e _ s m _ below meth c n0 _ lt150 h149 29 591 (mkF m 178 #[.val (.int i0), .val (.int i1), .val (.int i2), .val (.int i3), .val (.int i4), .val (.int i5), .val (.int (1 : Int32)), .val (.int (1 : Int32)), .val (.ref y_0), .val (.ref y_1), .val (.ref y_2), .val (.ref y_3), .val (.ref b8), .val (.ref qq97), .val (.ref qq128)] [(.int (1 : Int32))])
      have K153 : Keep h_3 h149 [] := K148.ext E151
      refine Wl.ifN C at_178 (XT.i0_eq_f (by decide)) ?_
      refine Wl.st (g' := (mkF m 182 #[.val (.int i0), .val (.int i1), .val (.int i2), .val (.int i3), .val (.int i4), .val (.int i5), .val (.int (1 : Int32)), .val (.int (1 : Int32)), .val (.ref y_0), .val (.ref y_1), .val (.ref y_2), .val (.ref y_3), .val (.ref b8), .val (.ref qq97), .val (.ref qq128)] [(.int (1 : Int32))])) (fun X t q => XS.iconst X.here C.hx rfl (hb C.hby at_181) q) ?_
      refine Wl.gto C (pc' := 186) at_182 (by decide) (by decide) ?_
      exact Wl.retV C (t := .boolean) rfl rfl (Or.inl ⟨rfl, by simp, _, rfl⟩) at_186 (by decide) (by decide) rfl
    · skip
      show Wl Z p l e _ s m _ below meth c n0 _ lt_3 h112 19 250 (mkF m 118 #[.val (.int i0), .val (.int i1), .val (.int i2), .val (.int i3), .val (.int i4), .val (.int i5), .val (.int (1 : Int32)), .val (.int (2 : Int32)), .val (.ref y_0), .val (.ref y_1), .val (.ref y_2), .val (.ref y_3), .val (.ref b8), .val (.ref qq97), .unset] [])
      refine Wl.ildW C at_118 rfl ?_
      refine Wl.st (g' := (mkF m 121 #[.val (.int i0), .val (.int i1), .val (.int i2), .val (.int i3), .val (.int i4), .val (.int i5), .val (.int (1 : Int32)), .val (.int (2 : Int32)), .val (.ref y_0), .val (.ref y_1), .val (.ref y_2), .val (.ref y_3), .val (.ref b8), .val (.ref qq97), .unset] [(.int (1 : Int32)), (.int (2 : Int32))])) (fun X t q => XS.iconst X.here C.hx rfl (hb C.hby at_120) q) ?_
      refine Wl.icN C at_121 (XT.ii_lt_f (by decide)) ?_
      refine Wl.aldW C at_124 rfl rfl ?_
      refine Wl.aldW C at_126 rfl rfl ?_
      refine Wl.callV C (x := (⟨PB, "add", "(Ljava/lang/CharSequence;)Lcom/example/amendatory/amendatory/Paragraphs$Builder;"⟩ : MethodName)) (z := (⟨PB, "add", "(Ljava/lang/CharSequence;)Lcom/example/amendatory/amendatory/Paragraphs$Builder;"⟩ : MethodName)) (K := PB) (wd hw 79) (wd hw 80) (wd hw 82) (wd hw 81) (wd hw 14) (wd hw 83) (by decide) (fun s' hZ' => notFace_of_selects (args := #[]) (mvT hZ' (wd hw 82))) B114.1 (Met.toL (own_add l Z a0 hw n0 h112 cs (SC.ext (ext_trans EA_3 (toExt KSC))) hcs h112 (Keep.refl h112 [b8]).1 szC b8 gb 0 ch 0 (fun _ => .int 0) f0 (B114.imp (fun bd T => Or.inl ⟨T, rfl⟩)) y_2 vy_2 n_2 f_2 (S6.ext (toExt KSC)) (Nat.lt_of_lt_of_le S6.lt KSC.1) (Nat.lt_of_lt_of_le S6.ltv KSC.1) (Nat.ne_of_lt (Nat.lt_of_lt_of_le S6.lt gSb)) (Nat.ne_of_lt (Nat.lt_of_lt_of_le S6.ltv gSb)) (by omega) (by omega) (by omega) (by decide)) lt_3) (w := 0) (by decide) (by decide) pd_42 rfl (rest := []) rfl rfl (Nat.le_of_eq rfl) (by decide) (by decide) at_128 ?_
      rintro _ h154 lq ⟨⟨rfl, Q155, B156⟩, elq⟩; rw [elq]
      show Wl Z p l e _ s m _ below meth c n0 _ lt_3 h154 22 382 (mkF m 131 #[.val (.int i0), .val (.int i1), .val (.int i2), .val (.int i3), .val (.int i4), .val (.int i5), .val (.int (1 : Int32)), .val (.int (2 : Int32)), .val (.ref y_0), .val (.ref y_1), .val (.ref y_2), .val (.ref y_3), .val (.ref b8), .val (.ref qq97), .unset] [(.ref b8)])
      have K157 : Keep h_3 h154 [] := Kq.all KSC Q155 KSC.1 gSb
      have K158 : Keep h112 h154 [b8] := Kq.keepb (Keep.refl h112 [b8]) Q155
      have B159 : BB Z h154 b8 1 2 (up (cpf f0 (fun _ => .int (0 : Int32)) 0 0 (0 + 1)) (0 + 1) (.int (Int32.ofNat (0 + n_2)))) ch (fun bd => Tq Z h154 h112 b8 bd (0 + n_2) (cat2 (fun _ => .int 0) f_2 0)) := B156
      refine Wl.popS C at_131 rfl ?_
      refine Wl.ildW C at_132 rfl ?_
      refine Wl.st (g' := (mkF m 135 #[.val (.int i0), .val (.int i1), .val (.int i2), .val (.int i3), .val (.int i4), .val (.int i5), .val (.int (1 : Int32)), .val (.int (2 : Int32)), .val (.ref y_0), .val (.ref y_1), .val (.ref y_2), .val (.ref y_3), .val (.ref b8), .val (.ref qq97), .unset] [(.int (2 : Int32)), (.int (2 : Int32))])) (fun X t q => XS.iconst X.here C.hx rfl (hb C.hby at_134) q) ?_
      refine Wl.icN C at_135 (XT.ii_lt_f (by decide)) ?_
      refine Wl.aldW C at_138 rfl rfl ?_
      refine Wl.aldW C at_140 rfl rfl ?_
      refine Wl.callV C (x := (⟨PB, "add", "(Ljava/lang/CharSequence;)Lcom/example/amendatory/amendatory/Paragraphs$Builder;"⟩ : MethodName)) (z := (⟨PB, "add", "(Ljava/lang/CharSequence;)Lcom/example/amendatory/amendatory/Paragraphs$Builder;"⟩ : MethodName)) (K := PB) (wd hw 79) (wd hw 80) (wd hw 82) (wd hw 81) (wd hw 14) (wd hw 83) (by decide) (fun s' hZ' => notFace_of_selects (args := #[]) (mvT hZ' (wd hw 82))) B159.1 (Met.toL (own_add l Z a0 hw n0 h154 cs (SC.ext (ext_trans EA_3 (toExt K157))) hcs h112 K158.1 szC b8 gb 1 ch (0 + n_2) (cat2 (fun _ => .int 0) f_2 0) (up (cpf f0 (fun _ => .int (0 : Int32)) 0 0 (0 + 1)) (0 + 1) (.int (Int32.ofNat (0 + n_2)))) (B159.imp (fun bd T => Or.inr T)) y_3 vy_3 n_3 f_3 (S_3.ext (toExt K157)) (Nat.lt_of_lt_of_le S_3.lt KSC.1) (Nat.lt_of_lt_of_le S_3.ltv KSC.1) (Nat.ne_of_lt (Nat.lt_of_lt_of_le S_3.lt gSb)) (Nat.ne_of_lt (Nat.lt_of_lt_of_le S_3.ltv gSb)) (by omega) (by omega) (by omega) (by decide)) lt_3) (w := 0) (by decide) (by decide) pd_42 rfl (rest := []) rfl rfl (Nat.le_of_eq rfl) (by decide) (by decide) at_142 ?_
      rintro _ h160 lq ⟨⟨rfl, Q161, B162⟩, elq⟩; rw [elq]
      show Wl Z p l e _ s m _ below meth c n0 _ lt_3 h160 25 514 (mkF m 145 #[.val (.int i0), .val (.int i1), .val (.int i2), .val (.int i3), .val (.int i4), .val (.int i5), .val (.int (1 : Int32)), .val (.int (2 : Int32)), .val (.ref y_0), .val (.ref y_1), .val (.ref y_2), .val (.ref y_3), .val (.ref b8), .val (.ref qq97), .unset] [(.ref b8)])
      have K163 : Keep h_3 h160 [] := Kq.all K157 Q161 KSC.1 gSb
      have K164 : Keep h112 h160 [b8] := Kq.keepb K158 Q161
      have B165 : BB Z h160 b8 2 4 (up (cpf (up (cpf f0 (fun _ => .int (0 : Int32)) 0 0 (0 + 1)) (0 + 1) (.int (Int32.ofNat (0 + n_2)))) (fun _ => .int (0 : Int32)) 0 0 (1 + 1)) (1 + 1) (.int (Int32.ofNat ((0 + n_2) + n_3)))) ch (fun bd => Tq Z h160 h112 b8 bd ((0 + n_2) + n_3) (cat2 (cat2 (fun _ => .int 0) f_2 0) f_3 (0 + n_2))) := B162
      refine Wl.popS C at_145 rfl ?_
      refine Wl.aldW C at_146 rfl rfl ?_
      refine Wl.callV C (x := (⟨PB, "build", "()Lcom/example/amendatory/amendatory/Paragraphs;"⟩ : MethodName)) (z := (⟨PB, "build", "()Lcom/example/amendatory/amendatory/Paragraphs;"⟩ : MethodName)) (K := PB) (wd hw 27) (wd hw 28) (wd hw 30) (wd hw 29) (wd hw 14) (wd hw 31) (by decide) (fun s' hZ' => notFace_of_selects (args := #[]) (mvT hZ' (wd hw 30))) B165.1 (Met.toL (own_bld1 l Z a0 hw n0 h160 cs (SC.ext (ext_trans EA_3 (toExt K163))) hcs h112 b8 2 4 ((0 + n_2) + n_3) ch (cat2 (cat2 (fun _ => .int 0) f_2 0) f_3 (0 + n_2)) (up (cpf (up (cpf f0 (fun _ => .int (0 : Int32)) 0 0 (0 + 1)) (0 + 1) (.int (Int32.ofNat (0 + n_2)))) (fun _ => .int (0 : Int32)) 0 0 (1 + 1)) (1 + 1) (.int (Int32.ofNat ((0 + n_2) + n_3)))) B165 (Nat.le_trans szS K163.1) (by decide) (by decide) (by omega)) lt_3) (w := 0) (by decide) (by decide) pd_40 rfl (rest := []) rfl rfl (Nat.le_of_eq rfl) (by decide) (by decide) at_148 ?_
      rintro _ h166 lq ⟨⟨qq167, xx168, vx169, bd170, rfl, K171, P172, g173, g174, g175, g176⟩, elq⟩; rw [elq]
      show Wl Z p l e _ s m _ below meth c n0 _ lt_3 h166 28 587 (mkF m 151 #[.val (.int i0), .val (.int i1), .val (.int i2), .val (.int i3), .val (.int i4), .val (.int i5), .val (.int (1 : Int32)), .val (.int (2 : Int32)), .val (.ref y_0), .val (.ref y_1), .val (.ref y_2), .val (.ref y_3), .val (.ref b8), .val (.ref qq97), .unset] [(.ref qq167)])
      have ne177 : qq167 ∉ [b8] := nmS (Ne.symm (Nat.ne_of_lt (Nat.lt_of_lt_of_le B165.1.lt g173))) nm0
      have ne178 : xx168 ∉ [b8] := nmS (Ne.symm (Nat.ne_of_lt (Nat.lt_of_lt_of_le B165.1.lt g174))) nm0
      have ne179 : vx169 ∉ [b8] := nmS (Ne.symm (Nat.ne_of_lt (Nat.lt_of_lt_of_le B165.1.lt g175))) nm0
      have ne180 : bd170 ∉ [b8] := nmS g176 nm0
      have K181 : Keep h_3 h166 [] := K163.trans K171 nv0
      have K182 : Keep h112 h166 [b8] := K164.trans K171 nv0
      refine Wl.st (g' := (mkF m 153 #[.val (.int i0), .val (.int i1), .val (.int i2), .val (.int i3), .val (.int i4), .val (.int i5), .val (.int (1 : Int32)), .val (.int (2 : Int32)), .val (.ref y_0), .val (.ref y_1), .val (.ref y_2), .val (.ref y_3), .val (.ref b8), .val (.ref qq97), .val (.ref qq167)] [])) (fun X t q => XS.astore X.here C.hx rfl (hb C.hby at_151) rfl rfl (l' := #[.val (.int i0), .val (.int i1), .val (.int i2), .val (.int i3), .val (.int i4), .val (.int i5), .val (.int (1 : Int32)), .val (.int (2 : Int32)), .val (.ref y_0), .val (.ref y_1), .val (.ref y_2), .val (.ref y_3), .val (.ref b8), .val (.ref qq97), .val (.ref qq167)]) rfl q) ?_
      refine Wl.aldW C at_153 rfl rfl ?_
      refine Wl.ildW C at_155 rfl ?_
      refine Wl.aldW C at_157 rfl rfl ?_
      refine Wl.aldW C at_159 rfl rfl ?_
      refine Wl.callS C (z := (⟨"com/example/amendatory/amendatory/BuilderClearPinLaw", "holds", "(Lcom/example/amendatory/amendatory/Paragraphs;ILjava/lang/String;Ljava/lang/String;)Z"⟩ : MethodName)) (wd hw 44) (wd hw 45) (wd hw 2) (wd hw 46) (by decide) (own_h1 l Z a0 hw n0 h166 lt_3 (Nat.le_trans szS K181.1) (ext_trans EZ (ext_trans EA_3 (toExt K181))) (L_3.ext (toExt K181)) HD1 cs (SC.ext (ext_trans EA_3 (toExt K181))) hcs sv hr_sv (SV.ext (ext_trans EA_3 (toExt K181))) qq97 xx98 vx99 bd100 2 (0 + n_0) (cat2 (fun _ => .int 0) f_0 0) (up (cpf f0 (fun _ => .int (0 : Int32)) 0 0 (0 + 1)) (0 + 1) (.int (Int32.ofNat (0 + n_0)))) (P115.keep K182 ne107 ne108 ne109 ne110) y_0 vy_0 n_0 f_0 (S4.ext (toExt K181)) y_1 (by decide) (by decide) ((ffn_old (k := 0) (Nat.le_refl 0)).trans h00) ffn_new1 (by omega) (by omega) (fun i hi => cat_0 i)) (w := 0) (by decide) (by decide) pd_41 rfl (rest := []) rfl rfl (Nat.le_of_eq rfl) (by decide) (by decide) at_161 ?_
      rintro _ h183 lt184 ⟨rfl, E185, L186⟩
      show Wl Z p l e _ s m _ below meth c n0 _ lt184 h183 30 655 (mkF m 164 #[.val (.int i0), .val (.int i1), .val (.int i2), .val (.int i3), .val (.int i4), .val (.int i5), .val (.int (1 : Int32)), .val (.int (2 : Int32)), .val (.ref y_0), .val (.ref y_1), .val (.ref y_2), .val (.ref y_3), .val (.ref b8), .val (.ref qq97), .val (.ref qq167)] [(.int (1 : Int32))])
      have K187 : Keep h_3 h183 [] := K181.ext E185
      refine Wl.ifN C at_164 (XT.i0_eq_f (by decide)) ?_
      refine Wl.aldW C at_167 rfl rfl ?_
      refine Wl.ildW C at_169 rfl ?_
      refine Wl.aldW C at_171 rfl rfl ?_
      refine Wl.aldW C at_173 rfl rfl ?_
      refine Wl.callS C (z := (⟨"com/example/amendatory/amendatory/BuilderClearPinLaw", "holds", "(Lcom/example/amendatory/amendatory/Paragraphs;ILjava/lang/String;Ljava/lang/String;)Z"⟩ : MethodName)) (wd hw 44) (wd hw 45) (wd hw 2) (wd hw 46) (by decide) (own_h2 l Z a0 hw n0 h183 lt184 (Nat.le_trans szS K187.1) (ext_trans EZ (ext_trans EA_3 (toExt K187))) L186 HD1 cs (SC.ext (ext_trans EA_3 (toExt K187))) hcs sv hr_sv (SV.ext (ext_trans EA_3 (toExt K187))) qq167 xx168 vx169 bd170 4 ((0 + n_2) + n_3) (cat2 (cat2 (fun _ => .int 0) f_2 0) f_3 (0 + n_2)) (up (cpf (up (cpf f0 (fun _ => .int (0 : Int32)) 0 0 (0 + 1)) (0 + 1) (.int (Int32.ofNat (0 + n_2)))) (fun _ => .int (0 : Int32)) 0 0 (1 + 1)) (1 + 1) (.int (Int32.ofNat ((0 + n_2) + n_3)))) (P172.ext E185) y_2 vy_2 n_2 f_2 (S6.ext (toExt K187)) y_3 vy_3 n_3 f_3 (S_3.ext (toExt K187)) (by decide) (by decide) ((ffn_old (k := 1) (by decide)).trans ((ffn_old (k := 0) (Nat.le_refl 0)).trans h00)) ((ffn_old (k := 1) (by decide)).trans ffn_new1) ffn_new2 (by omega) (by omega) (fun i hi => cat_l hi) (fun i hi => cat_r)) (w := 0) (by decide) (by decide) pd_41 rfl (rest := []) rfl rfl (Nat.le_of_eq rfl) (by decide) (by decide) at_175 ?_
      rintro _ h188 lt189 ⟨rfl, E190, L191⟩
      show Wl Z p l e _ s m _ below meth c n0 _ lt189 h188 34 791 (mkF m 178 #[.val (.int i0), .val (.int i1), .val (.int i2), .val (.int i3), .val (.int i4), .val (.int i5), .val (.int (1 : Int32)), .val (.int (2 : Int32)), .val (.ref y_0), .val (.ref y_1), .val (.ref y_2), .val (.ref y_3), .val (.ref b8), .val (.ref qq97), .val (.ref qq167)] [(.int (1 : Int32))])
      have K192 : Keep h_3 h188 [] := K187.ext E190
      refine Wl.ifN C at_178 (XT.i0_eq_f (by decide)) ?_
      refine Wl.st (g' := (mkF m 182 #[.val (.int i0), .val (.int i1), .val (.int i2), .val (.int i3), .val (.int i4), .val (.int i5), .val (.int (1 : Int32)), .val (.int (2 : Int32)), .val (.ref y_0), .val (.ref y_1), .val (.ref y_2), .val (.ref y_3), .val (.ref b8), .val (.ref qq97), .val (.ref qq167)] [(.int (1 : Int32))])) (fun X t q => XS.iconst X.here C.hx rfl (hb C.hby at_181) q) ?_
      refine Wl.gto C (pc' := 186) at_182 (by decide) (by decide) ?_
      exact Wl.retV C (t := .boolean) rfl rfl (Or.inl ⟨rfl, by simp, _, rfl⟩) at_186 (by decide) (by decide) rfl
  · skip
    show Wl Z p l e _ s m _ below meth c n0 _ lt_3 h22 13 45 (mkF m 78 #[.val (.int i0), .val (.int i1), .val (.int i2), .val (.int i3), .val (.int i4), .val (.int i5), .val (.int (2 : Int32)), .val (.int km), .val (.ref y_0), .val (.ref y_1), .val (.ref y_2), .val (.ref y_3), .val (.ref b8), .unset, .unset] [])
    refine Wl.ildW C at_78 rfl ?_
    refine Wl.st (g' := (mkF m 81 #[.val (.int i0), .val (.int i1), .val (.int i2), .val (.int i3), .val (.int i4), .val (.int i5), .val (.int (2 : Int32)), .val (.int km), .val (.ref y_0), .val (.ref y_1), .val (.ref y_2), .val (.ref y_3), .val (.ref b8), .unset, .unset] [(.int (1 : Int32)), (.int (2 : Int32))])) (fun X t q => XS.iconst X.here C.hx rfl (hb C.hby at_80) q) ?_
    refine Wl.icN C at_81 (XT.ii_lt_f (by decide)) ?_
    refine Wl.aldW C at_84 rfl rfl ?_
    refine Wl.aldW C at_86 rfl rfl ?_
    refine Wl.callV C (x := (⟨PB, "add", "(Ljava/lang/CharSequence;)Lcom/example/amendatory/amendatory/Paragraphs$Builder;"⟩ : MethodName)) (z := (⟨PB, "add", "(Ljava/lang/CharSequence;)Lcom/example/amendatory/amendatory/Paragraphs$Builder;"⟩ : MethodName)) (K := PB) (wd hw 79) (wd hw 80) (wd hw 82) (wd hw 81) (wd hw 14) (wd hw 83) (by decide) (fun s' hZ' => notFace_of_selects (args := #[]) (mvT hZ' (wd hw 82))) B24.1 (Met.toL (own_add l Z a0 hw n0 h22 cs (SC.ext (ext_trans EA_3 (toExt K25))) hcs h_3 K25.1 szS b8 gb 0 ch 0 (fun _ => .int 0) f0 (B24.imp (fun bd T => Or.inl ⟨T, rfl⟩)) y_0 vy_0 n_0 f_0 (S4.ext (toExt K25)) S4.lt S4.ltv (Nat.ne_of_lt (Nat.lt_of_lt_of_le S4.lt gSb)) (Nat.ne_of_lt (Nat.lt_of_lt_of_le S4.ltv gSb)) (by omega) (by omega) (by omega) (by decide)) lt_3) (w := 0) (by decide) (by decide) pd_42 rfl (rest := []) rfl rfl (Nat.le_of_eq rfl) (by decide) (by decide) at_88 ?_
    rintro _ h193 lq ⟨⟨rfl, Q194, B195⟩, elq⟩; rw [elq]
    show Wl Z p l e _ s m _ below meth c n0 _ lt_3 h193 16 177 (mkF m 91 #[.val (.int i0), .val (.int i1), .val (.int i2), .val (.int i3), .val (.int i4), .val (.int i5), .val (.int (2 : Int32)), .val (.int km), .val (.ref y_0), .val (.ref y_1), .val (.ref y_2), .val (.ref y_3), .val (.ref b8), .unset, .unset] [(.ref b8)])
    have K196 : Keep h_3 h193 [] := Kq.all K25 Q194 (Nat.le_refl _) gSb
    have B197 : BB Z h193 b8 1 2 (up (cpf f0 (fun _ => .int (0 : Int32)) 0 0 (0 + 1)) (0 + 1) (.int (Int32.ofNat (0 + n_0)))) ch (fun bd => Tq Z h193 h_3 b8 bd (0 + n_0) (cat2 (fun _ => .int 0) f_0 0)) := B195
    refine Wl.popS C at_91 rfl ?_
    refine Wl.ildW C at_92 rfl ?_
    refine Wl.st (g' := (mkF m 95 #[.val (.int i0), .val (.int i1), .val (.int i2), .val (.int i3), .val (.int i4), .val (.int i5), .val (.int (2 : Int32)), .val (.int km), .val (.ref y_0), .val (.ref y_1), .val (.ref y_2), .val (.ref y_3), .val (.ref b8), .unset, .unset] [(.int (2 : Int32)), (.int (2 : Int32))])) (fun X t q => XS.iconst X.here C.hx rfl (hb C.hby at_94) q) ?_
    refine Wl.icN C at_95 (XT.ii_lt_f (by decide)) ?_
    refine Wl.aldW C at_98 rfl rfl ?_
    refine Wl.aldW C at_100 rfl rfl ?_
    refine Wl.callV C (x := (⟨PB, "add", "(Ljava/lang/CharSequence;)Lcom/example/amendatory/amendatory/Paragraphs$Builder;"⟩ : MethodName)) (z := (⟨PB, "add", "(Ljava/lang/CharSequence;)Lcom/example/amendatory/amendatory/Paragraphs$Builder;"⟩ : MethodName)) (K := PB) (wd hw 79) (wd hw 80) (wd hw 82) (wd hw 81) (wd hw 14) (wd hw 83) (by decide) (fun s' hZ' => notFace_of_selects (args := #[]) (mvT hZ' (wd hw 82))) B197.1 (Met.toL (own_add l Z a0 hw n0 h193 cs (SC.ext (ext_trans EA_3 (toExt K196))) hcs h_3 K196.1 szS b8 gb 1 ch (0 + n_0) (cat2 (fun _ => .int 0) f_0 0) (up (cpf f0 (fun _ => .int (0 : Int32)) 0 0 (0 + 1)) (0 + 1) (.int (Int32.ofNat (0 + n_0)))) (B197.imp (fun bd T => Or.inr T)) y_1 vy_1 n_1 f_1 (S5.ext (toExt K196)) S5.lt S5.ltv (Nat.ne_of_lt (Nat.lt_of_lt_of_le S5.lt gSb)) (Nat.ne_of_lt (Nat.lt_of_lt_of_le S5.ltv gSb)) (by omega) (by omega) (by omega) (by decide)) lt_3) (w := 0) (by decide) (by decide) pd_42 rfl (rest := []) rfl rfl (Nat.le_of_eq rfl) (by decide) (by decide) at_102 ?_
    rintro _ h198 lq ⟨⟨rfl, Q199, B200⟩, elq⟩; rw [elq]
    show Wl Z p l e _ s m _ below meth c n0 _ lt_3 h198 19 309 (mkF m 105 #[.val (.int i0), .val (.int i1), .val (.int i2), .val (.int i3), .val (.int i4), .val (.int i5), .val (.int (2 : Int32)), .val (.int km), .val (.ref y_0), .val (.ref y_1), .val (.ref y_2), .val (.ref y_3), .val (.ref b8), .unset, .unset] [(.ref b8)])
    have K201 : Keep h_3 h198 [] := Kq.all K196 Q199 (Nat.le_refl _) gSb
    have B202 : BB Z h198 b8 2 4 (up (cpf (up (cpf f0 (fun _ => .int (0 : Int32)) 0 0 (0 + 1)) (0 + 1) (.int (Int32.ofNat (0 + n_0)))) (fun _ => .int (0 : Int32)) 0 0 (1 + 1)) (1 + 1) (.int (Int32.ofNat ((0 + n_0) + n_1)))) ch (fun bd => Tq Z h198 h_3 b8 bd ((0 + n_0) + n_1) (cat2 (cat2 (fun _ => .int 0) f_0 0) f_1 (0 + n_0))) := B200
    refine Wl.popS C at_105 rfl ?_
    refine Wl.aldW C at_106 rfl rfl ?_
    refine Wl.callV C (x := (⟨PB, "build", "()Lcom/example/amendatory/amendatory/Paragraphs;"⟩ : MethodName)) (z := (⟨PB, "build", "()Lcom/example/amendatory/amendatory/Paragraphs;"⟩ : MethodName)) (K := PB) (wd hw 27) (wd hw 28) (wd hw 30) (wd hw 29) (wd hw 14) (wd hw 31) (by decide) (fun s' hZ' => notFace_of_selects (args := #[]) (mvT hZ' (wd hw 30))) B202.1 (Met.toL (own_bld1 l Z a0 hw n0 h198 cs (SC.ext (ext_trans EA_3 (toExt K201))) hcs h_3 b8 2 4 ((0 + n_0) + n_1) ch (cat2 (cat2 (fun _ => .int 0) f_0 0) f_1 (0 + n_0)) (up (cpf (up (cpf f0 (fun _ => .int (0 : Int32)) 0 0 (0 + 1)) (0 + 1) (.int (Int32.ofNat (0 + n_0)))) (fun _ => .int (0 : Int32)) 0 0 (1 + 1)) (1 + 1) (.int (Int32.ofNat ((0 + n_0) + n_1)))) B202 (Nat.le_trans szS K201.1) (by decide) (by decide) (by omega)) lt_3) (w := 0) (by decide) (by decide) pd_40 rfl (rest := []) rfl rfl (Nat.le_of_eq rfl) (by decide) (by decide) at_108 ?_
    rintro _ h203 lq ⟨⟨qq204, xx205, vx206, bd207, rfl, K208, P209, g210, g211, g212, g213⟩, elq⟩; rw [elq]
    show Wl Z p l e _ s m _ below meth c n0 _ lt_3 h203 22 382 (mkF m 111 #[.val (.int i0), .val (.int i1), .val (.int i2), .val (.int i3), .val (.int i4), .val (.int i5), .val (.int (2 : Int32)), .val (.int km), .val (.ref y_0), .val (.ref y_1), .val (.ref y_2), .val (.ref y_3), .val (.ref b8), .unset, .unset] [(.ref qq204)])
    have ne214 : qq204 ∉ [b8] := nmS (Ne.symm (Nat.ne_of_lt (Nat.lt_of_lt_of_le B202.1.lt g210))) nm0
    have ne215 : xx205 ∉ [b8] := nmS (Ne.symm (Nat.ne_of_lt (Nat.lt_of_lt_of_le B202.1.lt g211))) nm0
    have ne216 : vx206 ∉ [b8] := nmS (Ne.symm (Nat.ne_of_lt (Nat.lt_of_lt_of_le B202.1.lt g212))) nm0
    have ne217 : bd207 ∉ [b8] := nmS g213 nm0
    have K218 : Keep h_3 h203 [] := K201.trans K208 nv0
    have BC1 := (B202.clr (fun bd T => T.tv)).ext (toExt K208)
    refine Wl.st (g' := (mkF m 113 #[.val (.int i0), .val (.int i1), .val (.int i2), .val (.int i3), .val (.int i4), .val (.int i5), .val (.int (2 : Int32)), .val (.int km), .val (.ref y_0), .val (.ref y_1), .val (.ref y_2), .val (.ref y_3), .val (.ref b8), .val (.ref qq204), .unset] [])) (fun X t q => XS.astore X.here C.hx rfl (hb C.hby at_111) rfl rfl (l' := #[.val (.int i0), .val (.int i1), .val (.int i2), .val (.int i3), .val (.int i4), .val (.int i5), .val (.int (2 : Int32)), .val (.int km), .val (.ref y_0), .val (.ref y_1), .val (.ref y_2), .val (.ref y_3), .val (.ref b8), .val (.ref qq204), .unset]) rfl q) ?_
    refine Wl.aldW C at_113 rfl rfl ?_
    refine Wl.callV C (x := (⟨PB, "clear", "()V"⟩ : MethodName)) (z := (⟨PB, "clear", "()V"⟩ : MethodName)) (K := PB) (wd hw 37) (wd hw 38) (wd hw 40) (wd hw 39) (wd hw 14) (wd hw 41) (by decide) (fun s' hZ' => notFace_of_selects (args := #[]) (mvT hZ' (wd hw 40))) BC1.1 (Met.toL (own_clr l Z a0 hw n0 h203 b8 gb 2 ch BC1 nb f0 (NB.ext (ext_trans EA_3 (toExt K218))) (NA.ext (ext_trans EA_3 (toExt K218))) NI (Nat.ne_of_lt (Nat.lt_of_lt_of_le (NA.ext EA_3).lt gSb))) lt_3) (w := 0) (by decide) (by decide) pd_18 rfl (rest := []) rfl rfl (Nat.le_of_eq rfl) (by decide) (by decide) at_115 ?_
    rintro _ h219 lq ⟨⟨rfl, K220, B221⟩, elq⟩; rw [elq]
    show Wl Z p l e _ s m _ below meth c n0 _ lt_3 h219 22 382 (mkF m 118 #[.val (.int i0), .val (.int i1), .val (.int i2), .val (.int i3), .val (.int i4), .val (.int i5), .val (.int (2 : Int32)), .val (.int km), .val (.ref y_0), .val (.ref y_1), .val (.ref y_2), .val (.ref y_3), .val (.ref b8), .val (.ref qq204), .unset] [])
    have KSC : Keep h_3 h219 [] := K218.trans K220 (nvS (Or.inr gSb) nv0)
    have szC : n0 ≤ h219.size := Nat.le_trans szS KSC.1
    have P222 := P209.keep K220 ne214 ne215 ne216 ne217
    rcases rkm with rfl | rfl | rfl
    · skip
      show Wl Z p l e _ s m _ below meth c n0 _ lt_3 h219 22 382 (mkF m 118 #[.val (.int i0), .val (.int i1), .val (.int i2), .val (.int i3), .val (.int i4), .val (.int i5), .val (.int (2 : Int32)), .val (.int (0 : Int32)), .val (.ref y_0), .val (.ref y_1), .val (.ref y_2), .val (.ref y_3), .val (.ref b8), .val (.ref qq204), .unset] [])
      refine Wl.ildW C at_118 rfl ?_
      refine Wl.st (g' := (mkF m 121 #[.val (.int i0), .val (.int i1), .val (.int i2), .val (.int i3), .val (.int i4), .val (.int i5), .val (.int (2 : Int32)), .val (.int (0 : Int32)), .val (.ref y_0), .val (.ref y_1), .val (.ref y_2), .val (.ref y_3), .val (.ref b8), .val (.ref qq204), .unset] [(.int (1 : Int32)), (.int (0 : Int32))])) (fun X t q => XS.iconst X.here C.hx rfl (hb C.hby at_120) q) ?_
      refine Wl.icY C (pc' := 132) at_121 (XT.ii_lt_t (by decide)) (by decide) (by decide) ?_
      refine Wl.ildW C at_132 rfl ?_
      refine Wl.st (g' := (mkF m 135 #[.val (.int i0), .val (.int i1), .val (.int i2), .val (.int i3), .val (.int i4), .val (.int i5), .val (.int (2 : Int32)), .val (.int (0 : Int32)), .val (.ref y_0), .val (.ref y_1), .val (.ref y_2), .val (.ref y_3), .val (.ref b8), .val (.ref qq204), .unset] [(.int (2 : Int32)), (.int (0 : Int32))])) (fun X t q => XS.iconst X.here C.hx rfl (hb C.hby at_134) q) ?_
      refine Wl.icY C (pc' := 146) at_135 (XT.ii_lt_t (by decide)) (by decide) (by decide) ?_
      refine Wl.aldW C at_146 rfl rfl ?_
      refine Wl.callV C (x := (⟨PB, "build", "()Lcom/example/amendatory/amendatory/Paragraphs;"⟩ : MethodName)) (z := (⟨PB, "build", "()Lcom/example/amendatory/amendatory/Paragraphs;"⟩ : MethodName)) (K := PB) (wd hw 27) (wd hw 28) (wd hw 30) (wd hw 29) (wd hw 14) (wd hw 31) (by decide) (fun s' hZ' => notFace_of_selects (args := #[]) (mvT hZ' (wd hw 30))) B221.1 (Met.toL (own_bld0 l Z a0 hw n0 h219 b8 nn B221.2.1 (NN.ext (ext_trans EA_3 (toExt KSC)))) lt_3) (w := 0) (by decide) (by decide) pd_40 rfl (rest := []) rfl rfl (Nat.le_of_eq rfl) (by decide) (by decide) at_148 ?_
      rintro _ _ lq ⟨⟨rfl, rfl⟩, elq⟩; rw [elq]
      show Wl Z p l e _ s m _ below meth c n0 _ lt_3 h219 22 382 (mkF m 151 #[.val (.int i0), .val (.int i1), .val (.int i2), .val (.int i3), .val (.int i4), .val (.int i5), .val (.int (2 : Int32)), .val (.int (0 : Int32)), .val (.ref y_0), .val (.ref y_1), .val (.ref y_2), .val (.ref y_3), .val (.ref b8), .val (.ref qq204), .unset] [(.ref nn)])
      refine Wl.st (g' := (mkF m 153 #[.val (.int i0), .val (.int i1), .val (.int i2), .val (.int i3), .val (.int i4), .val (.int i5), .val (.int (2 : Int32)), .val (.int (0 : Int32)), .val (.ref y_0), .val (.ref y_1), .val (.ref y_2), .val (.ref y_3), .val (.ref b8), .val (.ref qq204), .val (.ref nn)] [])) (fun X t q => XS.astore X.here C.hx rfl (hb C.hby at_151) rfl rfl (l' := #[.val (.int i0), .val (.int i1), .val (.int i2), .val (.int i3), .val (.int i4), .val (.int i5), .val (.int (2 : Int32)), .val (.int (0 : Int32)), .val (.ref y_0), .val (.ref y_1), .val (.ref y_2), .val (.ref y_3), .val (.ref b8), .val (.ref qq204), .val (.ref nn)]) rfl q) ?_
      refine Wl.aldW C at_153 rfl rfl ?_
      refine Wl.ildW C at_155 rfl ?_
      refine Wl.aldW C at_157 rfl rfl ?_
      refine Wl.aldW C at_159 rfl rfl ?_
      refine Wl.callS C (z := (⟨"com/example/amendatory/amendatory/BuilderClearPinLaw", "holds", "(Lcom/example/amendatory/amendatory/Paragraphs;ILjava/lang/String;Ljava/lang/String;)Z"⟩ : MethodName)) (wd hw 44) (wd hw 45) (wd hw 2) (wd hw 46) (by decide) (own_h2 l Z a0 hw n0 h219 lt_3 (Nat.le_trans szS KSC.1) (ext_trans EZ (ext_trans EA_3 (toExt KSC))) (L_3.ext (toExt KSC)) HD1 cs (SC.ext (ext_trans EA_3 (toExt KSC))) hcs sv hr_sv (SV.ext (ext_trans EA_3 (toExt KSC))) qq204 xx205 vx206 bd207 4 ((0 + n_0) + n_1) (cat2 (cat2 (fun _ => .int 0) f_0 0) f_1 (0 + n_0)) (up (cpf (up (cpf f0 (fun _ => .int (0 : Int32)) 0 0 (0 + 1)) (0 + 1) (.int (Int32.ofNat (0 + n_0)))) (fun _ => .int (0 : Int32)) 0 0 (1 + 1)) (1 + 1) (.int (Int32.ofNat ((0 + n_0) + n_1)))) (P222.keep (Keep.refl h219 [b8]) ne214 ne215 ne216 ne217) y_0 vy_0 n_0 f_0 (S4.ext (toExt KSC)) y_1 vy_1 n_1 f_1 (S5.ext (toExt KSC)) (by decide) (by decide) ((ffn_old (k := 1) (by decide)).trans ((ffn_old (k := 0) (Nat.le_refl 0)).trans h00)) ((ffn_old (k := 1) (by decide)).trans ffn_new1) ffn_new2 (by omega) (by omega) (fun i hi => cat_l hi) (fun i hi => cat_r)) (w := 0) (by decide) (by decide) pd_41 rfl (rest := []) rfl rfl (Nat.le_of_eq rfl) (by decide) (by decide) at_161 ?_
      rintro _ h223 lt224 ⟨rfl, E225, L226⟩
      show Wl Z p l e _ s m _ below meth c n0 _ lt224 h223 26 518 (mkF m 164 #[.val (.int i0), .val (.int i1), .val (.int i2), .val (.int i3), .val (.int i4), .val (.int i5), .val (.int (2 : Int32)), .val (.int (0 : Int32)), .val (.ref y_0), .val (.ref y_1), .val (.ref y_2), .val (.ref y_3), .val (.ref b8), .val (.ref qq204), .val (.ref nn)] [(.int (1 : Int32))])
      have K227 : Keep h_3 h223 [] := KSC.ext E225
      refine Wl.ifN C at_164 (XT.i0_eq_f (by decide)) ?_
      refine Wl.aldW C at_167 rfl rfl ?_
      refine Wl.ildW C at_169 rfl ?_
      refine Wl.aldW C at_171 rfl rfl ?_
      refine Wl.aldW C at_173 rfl rfl ?_
      refine Wl.callS C (z := (⟨"com/example/amendatory/amendatory/BuilderClearPinLaw", "holds", "(Lcom/example/amendatory/amendatory/Paragraphs;ILjava/lang/String;Ljava/lang/String;)Z"⟩ : MethodName)) (wd hw 44) (wd hw 45) (wd hw 2) (wd hw 46) (by decide) (Met.toL (own_h0 l Z a0 hw n0 h223 nn y_2 y_3 (NP.ext (ext_trans EA_3 (toExt K227)))) lt224) (w := 0) (by decide) (by decide) pd_41 rfl (rest := []) rfl rfl (Nat.le_of_eq rfl) (by decide) (by decide) at_175 ?_
      rintro _ _ lq ⟨⟨rfl, rfl⟩, elq⟩; rw [elq]
      show Wl Z p l e _ s m _ below meth c n0 _ lt224 h223 26 518 (mkF m 178 #[.val (.int i0), .val (.int i1), .val (.int i2), .val (.int i3), .val (.int i4), .val (.int i5), .val (.int (2 : Int32)), .val (.int (0 : Int32)), .val (.ref y_0), .val (.ref y_1), .val (.ref y_2), .val (.ref y_3), .val (.ref b8), .val (.ref qq204), .val (.ref nn)] [(.int (1 : Int32))])
      refine Wl.ifN C at_178 (XT.i0_eq_f (by decide)) ?_
      refine Wl.st (g' := (mkF m 182 #[.val (.int i0), .val (.int i1), .val (.int i2), .val (.int i3), .val (.int i4), .val (.int i5), .val (.int (2 : Int32)), .val (.int (0 : Int32)), .val (.ref y_0), .val (.ref y_1), .val (.ref y_2), .val (.ref y_3), .val (.ref b8), .val (.ref qq204), .val (.ref nn)] [(.int (1 : Int32))])) (fun X t q => XS.iconst X.here C.hx rfl (hb C.hby at_181) q) ?_
      refine Wl.gto C (pc' := 186) at_182 (by decide) (by decide) ?_
      exact Wl.retV C (t := .boolean) rfl rfl (Or.inl ⟨rfl, by simp, _, rfl⟩) at_186 (by decide) (by decide) rfl
    · skip
      show Wl Z p l e _ s m _ below meth c n0 _ lt_3 h219 22 382 (mkF m 118 #[.val (.int i0), .val (.int i1), .val (.int i2), .val (.int i3), .val (.int i4), .val (.int i5), .val (.int (2 : Int32)), .val (.int (1 : Int32)), .val (.ref y_0), .val (.ref y_1), .val (.ref y_2), .val (.ref y_3), .val (.ref b8), .val (.ref qq204), .unset] [])
      refine Wl.ildW C at_118 rfl ?_
      refine Wl.st (g' := (mkF m 121 #[.val (.int i0), .val (.int i1), .val (.int i2), .val (.int i3), .val (.int i4), .val (.int i5), .val (.int (2 : Int32)), .val (.int (1 : Int32)), .val (.ref y_0), .val (.ref y_1), .val (.ref y_2), .val (.ref y_3), .val (.ref b8), .val (.ref qq204), .unset] [(.int (1 : Int32)), (.int (1 : Int32))])) (fun X t q => XS.iconst X.here C.hx rfl (hb C.hby at_120) q) ?_
      refine Wl.icN C at_121 (XT.ii_lt_f (by decide)) ?_
      refine Wl.aldW C at_124 rfl rfl ?_
      refine Wl.aldW C at_126 rfl rfl ?_
      refine Wl.callV C (x := (⟨PB, "add", "(Ljava/lang/CharSequence;)Lcom/example/amendatory/amendatory/Paragraphs$Builder;"⟩ : MethodName)) (z := (⟨PB, "add", "(Ljava/lang/CharSequence;)Lcom/example/amendatory/amendatory/Paragraphs$Builder;"⟩ : MethodName)) (K := PB) (wd hw 79) (wd hw 80) (wd hw 82) (wd hw 81) (wd hw 14) (wd hw 83) (by decide) (fun s' hZ' => notFace_of_selects (args := #[]) (mvT hZ' (wd hw 82))) B221.1 (Met.toL (own_add l Z a0 hw n0 h219 cs (SC.ext (ext_trans EA_3 (toExt KSC))) hcs h219 (Keep.refl h219 [b8]).1 szC b8 gb 0 ch 0 (fun _ => .int 0) f0 (B221.imp (fun bd T => Or.inl ⟨T, rfl⟩)) y_2 vy_2 n_2 f_2 (S6.ext (toExt KSC)) (Nat.lt_of_lt_of_le S6.lt KSC.1) (Nat.lt_of_lt_of_le S6.ltv KSC.1) (Nat.ne_of_lt (Nat.lt_of_lt_of_le S6.lt gSb)) (Nat.ne_of_lt (Nat.lt_of_lt_of_le S6.ltv gSb)) (by omega) (by omega) (by omega) (by decide)) lt_3) (w := 0) (by decide) (by decide) pd_42 rfl (rest := []) rfl rfl (Nat.le_of_eq rfl) (by decide) (by decide) at_128 ?_
      rintro _ h228 lq ⟨⟨rfl, Q229, B230⟩, elq⟩; rw [elq]
      show Wl Z p l e _ s m _ below meth c n0 _ lt_3 h228 25 514 (mkF m 131 #[.val (.int i0), .val (.int i1), .val (.int i2), .val (.int i3), .val (.int i4), .val (.int i5), .val (.int (2 : Int32)), .val (.int (1 : Int32)), .val (.ref y_0), .val (.ref y_1), .val (.ref y_2), .val (.ref y_3), .val (.ref b8), .val (.ref qq204), .unset] [(.ref b8)])
      have K231 : Keep h_3 h228 [] := Kq.all KSC Q229 KSC.1 gSb
      have K232 : Keep h219 h228 [b8] := Kq.keepb (Keep.refl h219 [b8]) Q229
      have B233 : BB Z h228 b8 1 2 (up (cpf f0 (fun _ => .int (0 : Int32)) 0 0 (0 + 1)) (0 + 1) (.int (Int32.ofNat (0 + n_2)))) ch (fun bd => Tq Z h228 h219 b8 bd (0 + n_2) (cat2 (fun _ => .int 0) f_2 0)) := B230
      refine Wl.popS C at_131 rfl ?_
      refine Wl.ildW C at_132 rfl ?_
      refine Wl.st (g' := (mkF m 135 #[.val (.int i0), .val (.int i1), .val (.int i2), .val (.int i3), .val (.int i4), .val (.int i5), .val (.int (2 : Int32)), .val (.int (1 : Int32)), .val (.ref y_0), .val (.ref y_1), .val (.ref y_2), .val (.ref y_3), .val (.ref b8), .val (.ref qq204), .unset] [(.int (2 : Int32)), (.int (1 : Int32))])) (fun X t q => XS.iconst X.here C.hx rfl (hb C.hby at_134) q) ?_
      refine Wl.icY C (pc' := 146) at_135 (XT.ii_lt_t (by decide)) (by decide) (by decide) ?_
      refine Wl.aldW C at_146 rfl rfl ?_
      refine Wl.callV C (x := (⟨PB, "build", "()Lcom/example/amendatory/amendatory/Paragraphs;"⟩ : MethodName)) (z := (⟨PB, "build", "()Lcom/example/amendatory/amendatory/Paragraphs;"⟩ : MethodName)) (K := PB) (wd hw 27) (wd hw 28) (wd hw 30) (wd hw 29) (wd hw 14) (wd hw 31) (by decide) (fun s' hZ' => notFace_of_selects (args := #[]) (mvT hZ' (wd hw 30))) B233.1 (Met.toL (own_bld1 l Z a0 hw n0 h228 cs (SC.ext (ext_trans EA_3 (toExt K231))) hcs h219 b8 1 2 (0 + n_2) ch (cat2 (fun _ => .int 0) f_2 0) (up (cpf f0 (fun _ => .int (0 : Int32)) 0 0 (0 + 1)) (0 + 1) (.int (Int32.ofNat (0 + n_2)))) B233 (Nat.le_trans szS K231.1) (by decide) (by decide) (by omega)) lt_3) (w := 0) (by decide) (by decide) pd_40 rfl (rest := []) rfl rfl (Nat.le_of_eq rfl) (by decide) (by decide) at_148 ?_
      rintro _ h234 lq ⟨⟨qq235, xx236, vx237, bd238, rfl, K239, P240, g241, g242, g243, g244⟩, elq⟩; rw [elq]
      show Wl Z p l e _ s m _ below meth c n0 _ lt_3 h234 28 587 (mkF m 151 #[.val (.int i0), .val (.int i1), .val (.int i2), .val (.int i3), .val (.int i4), .val (.int i5), .val (.int (2 : Int32)), .val (.int (1 : Int32)), .val (.ref y_0), .val (.ref y_1), .val (.ref y_2), .val (.ref y_3), .val (.ref b8), .val (.ref qq204), .unset] [(.ref qq235)])
      have ne245 : qq235 ∉ [b8] := nmS (Ne.symm (Nat.ne_of_lt (Nat.lt_of_lt_of_le B233.1.lt g241))) nm0
      have ne246 : xx236 ∉ [b8] := nmS (Ne.symm (Nat.ne_of_lt (Nat.lt_of_lt_of_le B233.1.lt g242))) nm0
      have ne247 : vx237 ∉ [b8] := nmS (Ne.symm (Nat.ne_of_lt (Nat.lt_of_lt_of_le B233.1.lt g243))) nm0
      have ne248 : bd238 ∉ [b8] := nmS g244 nm0
      have K249 : Keep h_3 h234 [] := K231.trans K239 nv0
      have K250 : Keep h219 h234 [b8] := K232.trans K239 nv0
      refine Wl.st (g' := (mkF m 153 #[.val (.int i0), .val (.int i1), .val (.int i2), .val (.int i3), .val (.int i4), .val (.int i5), .val (.int (2 : Int32)), .val (.int (1 : Int32)), .val (.ref y_0), .val (.ref y_1), .val (.ref y_2), .val (.ref y_3), .val (.ref b8), .val (.ref qq204), .val (.ref qq235)] [])) (fun X t q => XS.astore X.here C.hx rfl (hb C.hby at_151) rfl rfl (l' := #[.val (.int i0), .val (.int i1), .val (.int i2), .val (.int i3), .val (.int i4), .val (.int i5), .val (.int (2 : Int32)), .val (.int (1 : Int32)), .val (.ref y_0), .val (.ref y_1), .val (.ref y_2), .val (.ref y_3), .val (.ref b8), .val (.ref qq204), .val (.ref qq235)]) rfl q) ?_
      refine Wl.aldW C at_153 rfl rfl ?_
      refine Wl.ildW C at_155 rfl ?_
      refine Wl.aldW C at_157 rfl rfl ?_
      refine Wl.aldW C at_159 rfl rfl ?_
      refine Wl.callS C (z := (⟨"com/example/amendatory/amendatory/BuilderClearPinLaw", "holds", "(Lcom/example/amendatory/amendatory/Paragraphs;ILjava/lang/String;Ljava/lang/String;)Z"⟩ : MethodName)) (wd hw 44) (wd hw 45) (wd hw 2) (wd hw 46) (by decide) (own_h2 l Z a0 hw n0 h234 lt_3 (Nat.le_trans szS K249.1) (ext_trans EZ (ext_trans EA_3 (toExt K249))) (L_3.ext (toExt K249)) HD1 cs (SC.ext (ext_trans EA_3 (toExt K249))) hcs sv hr_sv (SV.ext (ext_trans EA_3 (toExt K249))) qq204 xx205 vx206 bd207 4 ((0 + n_0) + n_1) (cat2 (cat2 (fun _ => .int 0) f_0 0) f_1 (0 + n_0)) (up (cpf (up (cpf f0 (fun _ => .int (0 : Int32)) 0 0 (0 + 1)) (0 + 1) (.int (Int32.ofNat (0 + n_0)))) (fun _ => .int (0 : Int32)) 0 0 (1 + 1)) (1 + 1) (.int (Int32.ofNat ((0 + n_0) + n_1)))) (P222.keep K250 ne214 ne215 ne216 ne217) y_0 vy_0 n_0 f_0 (S4.ext (toExt K249)) y_1 vy_1 n_1 f_1 (S5.ext (toExt K249)) (by decide) (by decide) ((ffn_old (k := 1) (by decide)).trans ((ffn_old (k := 0) (Nat.le_refl 0)).trans h00)) ((ffn_old (k := 1) (by decide)).trans ffn_new1) ffn_new2 (by omega) (by omega) (fun i hi => cat_l hi) (fun i hi => cat_r)) (w := 0) (by decide) (by decide) pd_41 rfl (rest := []) rfl rfl (Nat.le_of_eq rfl) (by decide) (by decide) at_161 ?_
      rintro _ h251 lt252 ⟨rfl, E253, L254⟩
      show Wl Z p l e _ s m _ below meth c n0 _ lt252 h251 32 723 (mkF m 164 #[.val (.int i0), .val (.int i1), .val (.int i2), .val (.int i3), .val (.int i4), .val (.int i5), .val (.int (2 : Int32)), .val (.int (1 : Int32)), .val (.ref y_0), .val (.ref y_1), .val (.ref y_2), .val (.ref y_3), .val (.ref b8), .val (.ref qq204), .val (.ref qq235)] [(.int (1 : Int32))])
      have K255 : Keep h_3 h251 [] := K249.ext E253
      refine Wl.ifN C at_164 (XT.i0_eq_f (by decide)) ?_
      refine Wl.aldW C at_167 rfl rfl ?_
      refine Wl.ildW C at_169 rfl ?_
      refine Wl.aldW C at_171 rfl rfl ?_
      refine Wl.aldW C at_173 rfl rfl ?_
      refine Wl.callS C (z := (⟨"com/example/amendatory/amendatory/BuilderClearPinLaw", "holds", "(Lcom/example/amendatory/amendatory/Paragraphs;ILjava/lang/String;Ljava/lang/String;)Z"⟩ : MethodName)) (wd hw 44) (wd hw 45) (wd hw 2) (wd hw 46) (by decide) (own_h1 l Z a0 hw n0 h251 lt252 (Nat.le_trans szS K255.1) (ext_trans EZ (ext_trans EA_3 (toExt K255))) L254 HD1 cs (SC.ext (ext_trans EA_3 (toExt K255))) hcs sv hr_sv (SV.ext (ext_trans EA_3 (toExt K255))) qq235 xx236 vx237 bd238 2 (0 + n_2) (cat2 (fun _ => .int 0) f_2 0) (up (cpf f0 (fun _ => .int (0 : Int32)) 0 0 (0 + 1)) (0 + 1) (.int (Int32.ofNat (0 + n_2)))) (P240.ext E253) y_2 vy_2 n_2 f_2 (S6.ext (toExt K255)) y_3 (by decide) (by decide) ((ffn_old (k := 0) (Nat.le_refl 0)).trans h00) ffn_new1 (by omega) (by omega) (fun i hi => cat_0 i)) (w := 0) (by decide) (by decide) pd_41 rfl (rest := []) rfl rfl (Nat.le_of_eq rfl) (by decide) (by decide) at_175 ?_
      rintro _ h256 lt257 ⟨rfl, E258, L259⟩
      show Wl Z p l e _ s m _ below meth c n0 _ lt257 h256 34 791 (mkF m 178 #[.val (.int i0), .val (.int i1), .val (.int i2), .val (.int i3), .val (.int i4), .val (.int i5), .val (.int (2 : Int32)), .val (.int (1 : Int32)), .val (.ref y_0), .val (.ref y_1), .val (.ref y_2), .val (.ref y_3), .val (.ref b8), .val (.ref qq204), .val (.ref qq235)] [(.int (1 : Int32))])
      have K260 : Keep h_3 h256 [] := K255.ext E258
      refine Wl.ifN C at_178 (XT.i0_eq_f (by decide)) ?_
      refine Wl.st (g' := (mkF m 182 #[.val (.int i0), .val (.int i1), .val (.int i2), .val (.int i3), .val (.int i4), .val (.int i5), .val (.int (2 : Int32)), .val (.int (1 : Int32)), .val (.ref y_0), .val (.ref y_1), .val (.ref y_2), .val (.ref y_3), .val (.ref b8), .val (.ref qq204), .val (.ref qq235)] [(.int (1 : Int32))])) (fun X t q => XS.iconst X.here C.hx rfl (hb C.hby at_181) q) ?_
      refine Wl.gto C (pc' := 186) at_182 (by decide) (by decide) ?_
      exact Wl.retV C (t := .boolean) rfl rfl (Or.inl ⟨rfl, by simp, _, rfl⟩) at_186 (by decide) (by decide) rfl
    · skip
      show Wl Z p l e _ s m _ below meth c n0 _ lt_3 h219 22 382 (mkF m 118 #[.val (.int i0), .val (.int i1), .val (.int i2), .val (.int i3), .val (.int i4), .val (.int i5), .val (.int (2 : Int32)), .val (.int (2 : Int32)), .val (.ref y_0), .val (.ref y_1), .val (.ref y_2), .val (.ref y_3), .val (.ref b8), .val (.ref qq204), .unset] [])
      refine Wl.ildW C at_118 rfl ?_
      refine Wl.st (g' := (mkF m 121 #[.val (.int i0), .val (.int i1), .val (.int i2), .val (.int i3), .val (.int i4), .val (.int i5), .val (.int (2 : Int32)), .val (.int (2 : Int32)), .val (.ref y_0), .val (.ref y_1), .val (.ref y_2), .val (.ref y_3), .val (.ref b8), .val (.ref qq204), .unset] [(.int (1 : Int32)), (.int (2 : Int32))])) (fun X t q => XS.iconst X.here C.hx rfl (hb C.hby at_120) q) ?_
      refine Wl.icN C at_121 (XT.ii_lt_f (by decide)) ?_
      refine Wl.aldW C at_124 rfl rfl ?_
      refine Wl.aldW C at_126 rfl rfl ?_
      refine Wl.callV C (x := (⟨PB, "add", "(Ljava/lang/CharSequence;)Lcom/example/amendatory/amendatory/Paragraphs$Builder;"⟩ : MethodName)) (z := (⟨PB, "add", "(Ljava/lang/CharSequence;)Lcom/example/amendatory/amendatory/Paragraphs$Builder;"⟩ : MethodName)) (K := PB) (wd hw 79) (wd hw 80) (wd hw 82) (wd hw 81) (wd hw 14) (wd hw 83) (by decide) (fun s' hZ' => notFace_of_selects (args := #[]) (mvT hZ' (wd hw 82))) B221.1 (Met.toL (own_add l Z a0 hw n0 h219 cs (SC.ext (ext_trans EA_3 (toExt KSC))) hcs h219 (Keep.refl h219 [b8]).1 szC b8 gb 0 ch 0 (fun _ => .int 0) f0 (B221.imp (fun bd T => Or.inl ⟨T, rfl⟩)) y_2 vy_2 n_2 f_2 (S6.ext (toExt KSC)) (Nat.lt_of_lt_of_le S6.lt KSC.1) (Nat.lt_of_lt_of_le S6.ltv KSC.1) (Nat.ne_of_lt (Nat.lt_of_lt_of_le S6.lt gSb)) (Nat.ne_of_lt (Nat.lt_of_lt_of_le S6.ltv gSb)) (by omega) (by omega) (by omega) (by decide)) lt_3) (w := 0) (by decide) (by decide) pd_42 rfl (rest := []) rfl rfl (Nat.le_of_eq rfl) (by decide) (by decide) at_128 ?_
      rintro _ h261 lq ⟨⟨rfl, Q262, B263⟩, elq⟩; rw [elq]
      show Wl Z p l e _ s m _ below meth c n0 _ lt_3 h261 25 514 (mkF m 131 #[.val (.int i0), .val (.int i1), .val (.int i2), .val (.int i3), .val (.int i4), .val (.int i5), .val (.int (2 : Int32)), .val (.int (2 : Int32)), .val (.ref y_0), .val (.ref y_1), .val (.ref y_2), .val (.ref y_3), .val (.ref b8), .val (.ref qq204), .unset] [(.ref b8)])
      have K264 : Keep h_3 h261 [] := Kq.all KSC Q262 KSC.1 gSb
      have K265 : Keep h219 h261 [b8] := Kq.keepb (Keep.refl h219 [b8]) Q262
      have B266 : BB Z h261 b8 1 2 (up (cpf f0 (fun _ => .int (0 : Int32)) 0 0 (0 + 1)) (0 + 1) (.int (Int32.ofNat (0 + n_2)))) ch (fun bd => Tq Z h261 h219 b8 bd (0 + n_2) (cat2 (fun _ => .int 0) f_2 0)) := B263
      refine Wl.popS C at_131 rfl ?_
      refine Wl.ildW C at_132 rfl ?_
      refine Wl.st (g' := (mkF m 135 #[.val (.int i0), .val (.int i1), .val (.int i2), .val (.int i3), .val (.int i4), .val (.int i5), .val (.int (2 : Int32)), .val (.int (2 : Int32)), .val (.ref y_0), .val (.ref y_1), .val (.ref y_2), .val (.ref y_3), .val (.ref b8), .val (.ref qq204), .unset] [(.int (2 : Int32)), (.int (2 : Int32))])) (fun X t q => XS.iconst X.here C.hx rfl (hb C.hby at_134) q) ?_
      refine Wl.icN C at_135 (XT.ii_lt_f (by decide)) ?_
      refine Wl.aldW C at_138 rfl rfl ?_
      refine Wl.aldW C at_140 rfl rfl ?_
      refine Wl.callV C (x := (⟨PB, "add", "(Ljava/lang/CharSequence;)Lcom/example/amendatory/amendatory/Paragraphs$Builder;"⟩ : MethodName)) (z := (⟨PB, "add", "(Ljava/lang/CharSequence;)Lcom/example/amendatory/amendatory/Paragraphs$Builder;"⟩ : MethodName)) (K := PB) (wd hw 79) (wd hw 80) (wd hw 82) (wd hw 81) (wd hw 14) (wd hw 83) (by decide) (fun s' hZ' => notFace_of_selects (args := #[]) (mvT hZ' (wd hw 82))) B266.1 (Met.toL (own_add l Z a0 hw n0 h261 cs (SC.ext (ext_trans EA_3 (toExt K264))) hcs h219 K265.1 szC b8 gb 1 ch (0 + n_2) (cat2 (fun _ => .int 0) f_2 0) (up (cpf f0 (fun _ => .int (0 : Int32)) 0 0 (0 + 1)) (0 + 1) (.int (Int32.ofNat (0 + n_2)))) (B266.imp (fun bd T => Or.inr T)) y_3 vy_3 n_3 f_3 (S_3.ext (toExt K264)) (Nat.lt_of_lt_of_le S_3.lt KSC.1) (Nat.lt_of_lt_of_le S_3.ltv KSC.1) (Nat.ne_of_lt (Nat.lt_of_lt_of_le S_3.lt gSb)) (Nat.ne_of_lt (Nat.lt_of_lt_of_le S_3.ltv gSb)) (by omega) (by omega) (by omega) (by decide)) lt_3) (w := 0) (by decide) (by decide) pd_42 rfl (rest := []) rfl rfl (Nat.le_of_eq rfl) (by decide) (by decide) at_142 ?_
      rintro _ h267 lq ⟨⟨rfl, Q268, B269⟩, elq⟩; rw [elq]
      show Wl Z p l e _ s m _ below meth c n0 _ lt_3 h267 28 646 (mkF m 145 #[.val (.int i0), .val (.int i1), .val (.int i2), .val (.int i3), .val (.int i4), .val (.int i5), .val (.int (2 : Int32)), .val (.int (2 : Int32)), .val (.ref y_0), .val (.ref y_1), .val (.ref y_2), .val (.ref y_3), .val (.ref b8), .val (.ref qq204), .unset] [(.ref b8)])
      have K270 : Keep h_3 h267 [] := Kq.all K264 Q268 KSC.1 gSb
      have K271 : Keep h219 h267 [b8] := Kq.keepb K265 Q268
      have B272 : BB Z h267 b8 2 4 (up (cpf (up (cpf f0 (fun _ => .int (0 : Int32)) 0 0 (0 + 1)) (0 + 1) (.int (Int32.ofNat (0 + n_2)))) (fun _ => .int (0 : Int32)) 0 0 (1 + 1)) (1 + 1) (.int (Int32.ofNat ((0 + n_2) + n_3)))) ch (fun bd => Tq Z h267 h219 b8 bd ((0 + n_2) + n_3) (cat2 (cat2 (fun _ => .int 0) f_2 0) f_3 (0 + n_2))) := B269
      refine Wl.popS C at_145 rfl ?_
      refine Wl.aldW C at_146 rfl rfl ?_
      refine Wl.callV C (x := (⟨PB, "build", "()Lcom/example/amendatory/amendatory/Paragraphs;"⟩ : MethodName)) (z := (⟨PB, "build", "()Lcom/example/amendatory/amendatory/Paragraphs;"⟩ : MethodName)) (K := PB) (wd hw 27) (wd hw 28) (wd hw 30) (wd hw 29) (wd hw 14) (wd hw 31) (by decide) (fun s' hZ' => notFace_of_selects (args := #[]) (mvT hZ' (wd hw 30))) B272.1 (Met.toL (own_bld1 l Z a0 hw n0 h267 cs (SC.ext (ext_trans EA_3 (toExt K270))) hcs h219 b8 2 4 ((0 + n_2) + n_3) ch (cat2 (cat2 (fun _ => .int 0) f_2 0) f_3 (0 + n_2)) (up (cpf (up (cpf f0 (fun _ => .int (0 : Int32)) 0 0 (0 + 1)) (0 + 1) (.int (Int32.ofNat (0 + n_2)))) (fun _ => .int (0 : Int32)) 0 0 (1 + 1)) (1 + 1) (.int (Int32.ofNat ((0 + n_2) + n_3)))) B272 (Nat.le_trans szS K270.1) (by decide) (by decide) (by omega)) lt_3) (w := 0) (by decide) (by decide) pd_40 rfl (rest := []) rfl rfl (Nat.le_of_eq rfl) (by decide) (by decide) at_148 ?_
      rintro _ h273 lq ⟨⟨qq274, xx275, vx276, bd277, rfl, K278, P279, g280, g281, g282, g283⟩, elq⟩; rw [elq]
      show Wl Z p l e _ s m _ below meth c n0 _ lt_3 h273 31 719 (mkF m 151 #[.val (.int i0), .val (.int i1), .val (.int i2), .val (.int i3), .val (.int i4), .val (.int i5), .val (.int (2 : Int32)), .val (.int (2 : Int32)), .val (.ref y_0), .val (.ref y_1), .val (.ref y_2), .val (.ref y_3), .val (.ref b8), .val (.ref qq204), .unset] [(.ref qq274)])
      have ne284 : qq274 ∉ [b8] := nmS (Ne.symm (Nat.ne_of_lt (Nat.lt_of_lt_of_le B272.1.lt g280))) nm0
      have ne285 : xx275 ∉ [b8] := nmS (Ne.symm (Nat.ne_of_lt (Nat.lt_of_lt_of_le B272.1.lt g281))) nm0
      have ne286 : vx276 ∉ [b8] := nmS (Ne.symm (Nat.ne_of_lt (Nat.lt_of_lt_of_le B272.1.lt g282))) nm0
      have ne287 : bd277 ∉ [b8] := nmS g283 nm0
      have K288 : Keep h_3 h273 [] := K270.trans K278 nv0
      have K289 : Keep h219 h273 [b8] := K271.trans K278 nv0
      refine Wl.st (g' := (mkF m 153 #[.val (.int i0), .val (.int i1), .val (.int i2), .val (.int i3), .val (.int i4), .val (.int i5), .val (.int (2 : Int32)), .val (.int (2 : Int32)), .val (.ref y_0), .val (.ref y_1), .val (.ref y_2), .val (.ref y_3), .val (.ref b8), .val (.ref qq204), .val (.ref qq274)] [])) (fun X t q => XS.astore X.here C.hx rfl (hb C.hby at_151) rfl rfl (l' := #[.val (.int i0), .val (.int i1), .val (.int i2), .val (.int i3), .val (.int i4), .val (.int i5), .val (.int (2 : Int32)), .val (.int (2 : Int32)), .val (.ref y_0), .val (.ref y_1), .val (.ref y_2), .val (.ref y_3), .val (.ref b8), .val (.ref qq204), .val (.ref qq274)]) rfl q) ?_
      refine Wl.aldW C at_153 rfl rfl ?_
      refine Wl.ildW C at_155 rfl ?_
      refine Wl.aldW C at_157 rfl rfl ?_
      refine Wl.aldW C at_159 rfl rfl ?_
      refine Wl.callS C (z := (⟨"com/example/amendatory/amendatory/BuilderClearPinLaw", "holds", "(Lcom/example/amendatory/amendatory/Paragraphs;ILjava/lang/String;Ljava/lang/String;)Z"⟩ : MethodName)) (wd hw 44) (wd hw 45) (wd hw 2) (wd hw 46) (by decide) (own_h2 l Z a0 hw n0 h273 lt_3 (Nat.le_trans szS K288.1) (ext_trans EZ (ext_trans EA_3 (toExt K288))) (L_3.ext (toExt K288)) HD1 cs (SC.ext (ext_trans EA_3 (toExt K288))) hcs sv hr_sv (SV.ext (ext_trans EA_3 (toExt K288))) qq204 xx205 vx206 bd207 4 ((0 + n_0) + n_1) (cat2 (cat2 (fun _ => .int 0) f_0 0) f_1 (0 + n_0)) (up (cpf (up (cpf f0 (fun _ => .int (0 : Int32)) 0 0 (0 + 1)) (0 + 1) (.int (Int32.ofNat (0 + n_0)))) (fun _ => .int (0 : Int32)) 0 0 (1 + 1)) (1 + 1) (.int (Int32.ofNat ((0 + n_0) + n_1)))) (P222.keep K289 ne214 ne215 ne216 ne217) y_0 vy_0 n_0 f_0 (S4.ext (toExt K288)) y_1 vy_1 n_1 f_1 (S5.ext (toExt K288)) (by decide) (by decide) ((ffn_old (k := 1) (by decide)).trans ((ffn_old (k := 0) (Nat.le_refl 0)).trans h00)) ((ffn_old (k := 1) (by decide)).trans ffn_new1) ffn_new2 (by omega) (by omega) (fun i hi => cat_l hi) (fun i hi => cat_r)) (w := 0) (by decide) (by decide) pd_41 rfl (rest := []) rfl rfl (Nat.le_of_eq rfl) (by decide) (by decide) at_161 ?_
      rintro _ h290 lt291 ⟨rfl, E292, L293⟩
      show Wl Z p l e _ s m _ below meth c n0 _ lt291 h290 35 855 (mkF m 164 #[.val (.int i0), .val (.int i1), .val (.int i2), .val (.int i3), .val (.int i4), .val (.int i5), .val (.int (2 : Int32)), .val (.int (2 : Int32)), .val (.ref y_0), .val (.ref y_1), .val (.ref y_2), .val (.ref y_3), .val (.ref b8), .val (.ref qq204), .val (.ref qq274)] [(.int (1 : Int32))])
      have K294 : Keep h_3 h290 [] := K288.ext E292
      refine Wl.ifN C at_164 (XT.i0_eq_f (by decide)) ?_
      refine Wl.aldW C at_167 rfl rfl ?_
      refine Wl.ildW C at_169 rfl ?_
      refine Wl.aldW C at_171 rfl rfl ?_
      refine Wl.aldW C at_173 rfl rfl ?_
      refine Wl.callS C (z := (⟨"com/example/amendatory/amendatory/BuilderClearPinLaw", "holds", "(Lcom/example/amendatory/amendatory/Paragraphs;ILjava/lang/String;Ljava/lang/String;)Z"⟩ : MethodName)) (wd hw 44) (wd hw 45) (wd hw 2) (wd hw 46) (by decide) (own_h2 l Z a0 hw n0 h290 lt291 (Nat.le_trans szS K294.1) (ext_trans EZ (ext_trans EA_3 (toExt K294))) L293 HD1 cs (SC.ext (ext_trans EA_3 (toExt K294))) hcs sv hr_sv (SV.ext (ext_trans EA_3 (toExt K294))) qq274 xx275 vx276 bd277 4 ((0 + n_2) + n_3) (cat2 (cat2 (fun _ => .int 0) f_2 0) f_3 (0 + n_2)) (up (cpf (up (cpf f0 (fun _ => .int (0 : Int32)) 0 0 (0 + 1)) (0 + 1) (.int (Int32.ofNat (0 + n_2)))) (fun _ => .int (0 : Int32)) 0 0 (1 + 1)) (1 + 1) (.int (Int32.ofNat ((0 + n_2) + n_3)))) (P279.ext E292) y_2 vy_2 n_2 f_2 (S6.ext (toExt K294)) y_3 vy_3 n_3 f_3 (S_3.ext (toExt K294)) (by decide) (by decide) ((ffn_old (k := 1) (by decide)).trans ((ffn_old (k := 0) (Nat.le_refl 0)).trans h00)) ((ffn_old (k := 1) (by decide)).trans ffn_new1) ffn_new2 (by omega) (by omega) (fun i hi => cat_l hi) (fun i hi => cat_r)) (w := 0) (by decide) (by decide) pd_41 rfl (rest := []) rfl rfl (Nat.le_of_eq rfl) (by decide) (by decide) at_175 ?_
      rintro _ h295 lt296 ⟨rfl, E297, L298⟩
      show Wl Z p l e _ s m _ below meth c n0 _ lt296 h295 39 991 (mkF m 178 #[.val (.int i0), .val (.int i1), .val (.int i2), .val (.int i3), .val (.int i4), .val (.int i5), .val (.int (2 : Int32)), .val (.int (2 : Int32)), .val (.ref y_0), .val (.ref y_1), .val (.ref y_2), .val (.ref y_3), .val (.ref b8), .val (.ref qq204), .val (.ref qq274)] [(.int (1 : Int32))])
      have K299 : Keep h_3 h295 [] := K294.ext E297
      refine Wl.ifN C at_178 (XT.i0_eq_f (by decide)) ?_
      refine Wl.st (g' := (mkF m 182 #[.val (.int i0), .val (.int i1), .val (.int i2), .val (.int i3), .val (.int i4), .val (.int i5), .val (.int (2 : Int32)), .val (.int (2 : Int32)), .val (.ref y_0), .val (.ref y_1), .val (.ref y_2), .val (.ref y_3), .val (.ref b8), .val (.ref qq204), .val (.ref qq274)] [(.int (1 : Int32))])) (fun X t q => XS.iconst X.here C.hx rfl (hb C.hby at_181) q) ?_
      refine Wl.gto C (pc' := 186) at_182 (by decide) (by decide) ?_
      exact Wl.retV C (t := .boolean) rfl rfl (Or.inl ⟨rfl, by simp, _, rfl⟩) at_186 (by decide) (by decide) rfl
set_option maxRecDepth 65536 in
set_option maxHeartbeats 40000000 in
theorem comes_1 {Post : Tables → Env → Array Value → State → Outcome → State → Prop} (hpost : ∀ tb e args s v u, (limb_1_1.after args s (.returned v) u = true ∧ limb_1_2.after args s (.returned v) u = true ∧ True) → ReturnedEndW s (.returned v) u (Jvm.fieldLocs frame_1_writes args s ++ Jvm.arrayLocs frame_1_arrays args s ++ Jvm.staticLocs frame_1_statics s) 80 2560 → Post tb e args s (.returned v) u) :
    ArmFor flags0 classFile x code maxLocals ret World_1 tables_1 room_1 Calls_1 rest_1 Pre_1 Post := by
  intro l hfl _ _ p e ha hc hk s m args below hf hA hF happ hP
  obtain ⟨hcalls, hrest, hpre⟩ := hP
  obtain ⟨-, -, -, hnamed, -, -, -, hat⟩ := (Spec.applies_iff hf).mp happ
  obtain ⟨hg, hn⟩ := and_e (Cond.before_iff.mp (show (Jvm.Cond.and given_1 narrow_1).before args s = true from hpre))
  obtain ⟨hcount, g0⟩ := and_e hg
  obtain ⟨v0, v1, v2, v3, v4, v5, rfl⟩ : ∃ v0 v1 v2 v3 v4 v5 : Value, args = #[v0, v1, v2, v3, v4, v5] := by
    have hs : args.size = 6 := by simpa [Cond.value, given_1] using hcount
    obtain ⟨L⟩ := args
    match L, hs with
    | [v0, v1, v2, v3, v4, v5], _ => exact ⟨v0, v1, v2, v3, v4, v5, rfl⟩
  have hw := fun d (hd : d ∈ tables_1) => atoms_spec (ws := Jvm.Cond.code x code maxLocals ret :: tables_1) hat d (List.mem_cons_of_mem _ hd)
  have hfit : Fit s := fun {y c} hc i hi => by
    obtain ⟨ha, rfl⟩ := Array.getElem?_eq_some_iff.mp hc
    have q := List.all_eq_true.mp ((Array.all_eq_true_iff_forall_mem.mp hF) _ (Array.getElem_mem ha)) i (List.mem_range.mpr hi)
    simpa [Array.getElem?_eq_getElem hi] using q
  obtain ⟨e0, g1⟩ := and_e g0
  obtain ⟨i0, f0⟩ := is_v e0
  obtain rfl : v0 = (.int i0) := Option.some.inj f0
  obtain ⟨e1, g2⟩ := and_e g1
  obtain ⟨i1, f1⟩ := is_v e1
  obtain rfl : v1 = (.int i1) := Option.some.inj f1
  obtain ⟨e2, g3⟩ := and_e g2
  obtain ⟨i2, f2⟩ := is_v e2
  obtain rfl : v2 = (.int i2) := Option.some.inj f2
  obtain ⟨e3, g4⟩ := and_e g3
  obtain ⟨i3, f3⟩ := is_v e3
  obtain rfl : v3 = (.int i3) := Option.some.inj f3
  obtain ⟨e4, g5⟩ := and_e g4
  obtain ⟨i4, f4⟩ := is_v e4
  obtain rfl : v4 = (.int i4) := Option.some.inj f4
  obtain ⟨i5, f5⟩ := is_v g5
  obtain rfl : v5 = (.int i5) := Option.some.inj f5
  obtain ⟨hsets, hown0⟩ := atoms_of _ (rest_1_c_eq ▸ (show rest_1_c.before _ s = true from hrest))
  have n3 := not_v (Cond.before_iff.mp (hsets _ (List.mem_of_getElem? (i := 2) rfl)))
  obtain ⟨cs, ecs⟩ := is_v (Cond.before_iff.mp (hsets _ (List.mem_of_getElem? (i := 1) rfl)))
  have SC : Sta s s.heap "java/lang/String" "COMPACT_STRINGS" "Z" (.int cs) := Sta.start ecs (Or.inl (hsets _ (List.mem_of_getElem? (i := 0) rfl)))
  have hcs : ¬ cs = (0 : Int32) := gotF (Cond.eq_ints ecs (Term.int_eval 0)) n3
  obtain ⟨sv, esv, hsv⟩ := isR_v (Cond.before_iff.mp (hsets _ (List.mem_of_getElem? (i := 8) rfl)))
  have SV : Sta s s.heap "jdk/internal/util/Preconditions" "SIOOBE_FORMATTER" "Ljava/util/function/BiFunction;" sv := Sta.start esv (Or.inl (hsets _ (List.mem_of_getElem? (i := 7) rfl)))
  obtain ⟨c1, hn1⟩ := and_e hn
  obtain ⟨c2, hn2⟩ := and_e hn1
  obtain ⟨c3, hn3⟩ := and_e hn2
  obtain ⟨c4, hn4⟩ := and_e hn3
  obtain ⟨c5, hn5⟩ := and_e hn4
  obtain ⟨c6, c7⟩ := and_e hn5
  obtain ⟨nb, evb, NB, EB⟩ := stat_exa (wd hw 14) (wd hw 22) c2
  obtain ⟨cl, AB⟩ := Arr.start evb c1
  have NA := nb_fa AB (len_one evb AB c3) (elem_int evb AB.1 c7).2
  obtain ⟨nn, evn, NN, EN⟩ := stat_exa (wd hw 35) (wd hw 36) c4
  have NP : P0 s s.heap nn := ⟨EN, fld_int evn c5, fld_int evn c6⟩
  have HD0 : ConstHeldL s "com/example/amendatory/amendatory/BuilderClearPinLaw" 49 := heldStart (hcalls.1 ("com/example/amendatory/amendatory/BuilderClearPinLaw", 49) (by simp [consts_1])) (wd hw 4) (by simp) (hsets _ (List.mem_of_getElem? (i := 2) rfl)) (wd hw 7) (wd hw 6)
  have HD1 : ConstHeldL s "java/lang/StringLatin1" 151 := heldStart (hcalls.1 ("java/lang/StringLatin1", 151) (by simp [consts_1])) (wd hw 304) (by simp) (hsets _ (List.mem_of_getElem? (i := 2) rfl)) (wd hw 7) (wd hw 6)
  obtain ⟨n, o, h1, h2, h3, _, L, _, rfl, ⟨rfl, N⟩, -, hq⟩ := law_met l s _ hw s.heap.size s.heap (ltOf s) i0 i1 i2 i3 i4 i5 (Nat.le_refl _) (ext_refl _) (LtOk.start s s.heap (ltOf_lx s)) HD0 HD1 cs SC hcs sv hsv SV nb (fun _ => .int (0 : Int32)) NB NA FI.zero rfl nn NN NP tables_1 p e ha hc hk s m _ below hf ((Spec.applies_iff_loose hf).mp happ).1 ⟨rfl, State.Warmed39.refl s, rfl, ltOf_lx s⟩ trivial
  refine ⟨n, _, h1, h2, h3, hpost _ _ _ _ _ _ ⟨Cond.after_iff.mpr rfl, Cond.after_iff.mpr (eq_i res_at (Term.int_eval (1)) rfl), trivial⟩ ⟨hq.1, hq.2.1, hq.2.2.1, (hq.2.2.2.sift fun y hy => Or.inr (N y hy)).mono (by decide) (by decide)⟩⟩
theorem main_1_1 : Claimed_1_1 := comes_1 fun _ _ _ _ _ _ h hF => ⟨h.1, hF⟩
theorem main_1_2 : Claimed_1_2 := comes_1 fun _ _ _ _ _ _ h hF => ⟨h.2.1, hF⟩
end Jvm.Pilot.@@N@@
namespace Jvm.Pilot.@@N@@
open Jvm Jvm.ClassFile Sem Op Lib Jvm.Free Jvm.Stand Jvm.Pilot.@@N@@.Jvm.D
/-! MADE BY PROGRAM (witnessworld.py) out of the Statement's table words and the real class files: 34 classes; the members and pool entries that the words name. The judged class is class 1, her method 1. -/
namespace start1
open Jvm.ClassFile
def u (s : String) : CpInfo := .utf8 (stringToUtf16 s)
/-- a pool by its gaps: so many unusable entries, then the entry; so many at the end -/
def gap : Nat → List CpInfo → List CpInfo
  | 0, r => r
  | n + 1, r => .unusable :: gap n r
def poolList (es : List (Nat × CpInfo)) (last : Nat) : List CpInfo := es.foldr (fun e r => gap e.1 (e.2 :: r)) (gap last [])
def pool (es : List (Nat × CpInfo)) (last : Nat) : Array CpInfo := ⟨poolList es last⟩
def fileOf (pool : Array CpInfo) (this : Nat) (attrs : Array Attribute := #[]) (ms : Array MethodInfo := #[]) (fl : Nat := 33) (sup : Nat := 0) (ifs : Array Nat := #[]) (fds : Array FieldInfo := #[]) : ClassFile where
  minorVersion := 0
  majorVersion := 65
  constantPool := pool
  accessFlags := fl
  thisClass := this
  superClass := sup
  interfaces := ifs
  fields := fds
  methods := ms
  attributes := attrs
def plain (name : String) (sup : Option ClassId) : Class where
  name := name
  kind := .ordinary
  loader := none
  accessFlags := 33
  super := sup
  interfaces := #[]
  cf := none
  fields := #[]
  methods := #[]
  instanceTypes := #[]
  staticTypes := #[]
  resolved := #[]
  callSites := []
  init := .initialized
  statics := none
  mirror := none

def pool0 : Array CpInfo := pool [(5, u "<init>"), (0, u "()V"), (1, .class_ 10), (1, u "java/lang/Object"), (85, u "clone"), (0, u "()Ljava/lang/Object;")] 26

def k0c0 : Code := { maxStack := 0, maxLocals := 1, code := object_method_1_code, exceptionTable := #[], attributes := #[] }
def k0m0 : Method := { name := "<init>", desc := "()V", sig := { parameters := [], returnType := none }, accessFlags := 1, code := some k0c0 }
def k0m1 : Method := { name := "clone", desc := "()Ljava/lang/Object;", sig := { parameters := [], returnType := some (.object "java/lang/Object") }, accessFlags := 260, code := none }
/-- java/lang/Object -/
def k0 : Class := { plain "java/lang/Object" none with
  accessFlags := 33
  interfaces := #[]
  cf := some (fileOf pool0 8 #[] #[{ accessFlags := 1, nameIndex := 5, descriptorIndex := 6, attributes := #[] }, { accessFlags := 260, nameIndex := 96, descriptorIndex := 97, attributes := #[] }] 33 0 #[] #[])
  fields := #[]
  methods := #[k0m0, k0m1]
  instanceTypes := #[]
  staticTypes := #[]
  resolved := Array.replicate 124 none
  statics := none }

def pool1 : Array CpInfo := pool [(2, .class_ 4), (1, u "java/lang/Object"), (0, u "<init>"), (0, u "()V"), (0, .methodref 8 9), (0, .class_ 10), (0, .nameAndType 11 12), (0, u "com/example/amendatory/amendatory/BuilderClearPinLaw"), (0, u "para"), (0, u "(II)Ljava/lang/String;"), (0, .class_ 14), (0, u "com/example/amendatory/amendatory/Paragraphs$Builder"), (0, .methodref 13 16), (0, .nameAndType 5 17), (0, u "(I)V"), (0, .methodref 13 19), (0, .nameAndType 20 21), (0, u "add"), (0, u "(Ljava/lang/CharSequence;)Lcom/example/amendatory/amendatory/Paragraphs$Builder;"), (0, .methodref 13 23), (0, .nameAndType 24 25), (0, u "build"), (0, u "()Lcom/example/amendatory/amendatory/Paragraphs;"), (0, .methodref 13 27), (0, .nameAndType 28 6), (0, u "clear"), (0, .methodref 8 30), (0, .nameAndType 31 32), (0, u "holds"), (0, u "(Lcom/example/amendatory/amendatory/Paragraphs;ILjava/lang/String;Ljava/lang/String;)Z"), (0, .methodref 34 35), (0, .class_ 36), (0, .nameAndType 37 38), (0, u "com/example/amendatory/amendatory/Paragraphs"), (0, u "size"), (0, u "()I"), (0, .methodref 34 40), (0, .nameAndType 41 42), (0, u "get"), (0, u "(I)Ljava/lang/String;"), (0, .methodref 44 45), (0, .class_ 46), (0, .nameAndType 47 48), (0, u "java/lang/String"), (0, u "equals"), (0, u "(Ljava/lang/Object;)Z"), (0, .string 50), (0, u ""), (0, .methodref 44 52), (0, .nameAndType 53 54), (0, u "valueOf"), (0, u "(C)Ljava/lang/String;"), (0, .methodref 44 56), (0, .nameAndType 5 57), (0, u "([C)V"), (2, u "law"), (0, u "(IIIIII)Z")] 5

def k1m0 : Method := { name := "<init>", desc := "()V", sig := { parameters := [], returnType := none }, accessFlags := 1, code := none }
def k1c1 : Code := { maxStack := 4, maxLocals := 15, code := code, exceptionTable := #[], attributes := #[] }
def k1m1 : Method := { name := "law", desc := "(IIIIII)Z", sig := { parameters := [.int, .int, .int, .int, .int, .int], returnType := some .boolean }, accessFlags := 9, code := some k1c1 }
def k1c2 : Code := { maxStack := 2, maxLocals := 4, code := method_3_code, exceptionTable := #[], attributes := #[] }
def k1m2 : Method := { name := "holds", desc := "(Lcom/example/amendatory/amendatory/Paragraphs;ILjava/lang/String;Ljava/lang/String;)Z", sig := { parameters := [(.object "com/example/amendatory/amendatory/Paragraphs"), .int, (.object "java/lang/String"), (.object "java/lang/String")], returnType := some .boolean }, accessFlags := 10, code := some k1c2 }
def k1c3 : Code := { maxStack := 6, maxLocals := 5, code := method_4_code, exceptionTable := #[], attributes := #[] }
def k1m3 : Method := { name := "para", desc := "(II)Ljava/lang/String;", sig := { parameters := [.int, .int], returnType := some (.object "java/lang/String") }, accessFlags := 10, code := some k1c3 }
/-- com/example/amendatory/amendatory/BuilderClearPinLaw -/
def k1 : Class := { plain "com/example/amendatory/amendatory/BuilderClearPinLaw" (some 0) with
  accessFlags := 49
  interfaces := #[]
  cf := some (fileOf pool1 8 #[] #[{ accessFlags := 1, nameIndex := 5, descriptorIndex := 6, attributes := #[] }, { accessFlags := 9, nameIndex := 60, descriptorIndex := 61, attributes := #[] }, { accessFlags := 10, nameIndex := 31, descriptorIndex := 32, attributes := #[] }, { accessFlags := 10, nameIndex := 11, descriptorIndex := 12, attributes := #[] }] 49 2 #[] #[])
  fields := #[]
  methods := #[k1m0, k1m1, k1m2, k1m3]
  instanceTypes := #[]
  staticTypes := #[]
  resolved := Array.replicate 67 none
  statics := none }

def pool2 : Array CpInfo := pool [(1, .class_ 2), (0, u "java/io/Serializable"), (0, .class_ 4), (0, u "java/lang/Object")] 2

/-- java/io/Serializable -/
def k2 : Class := { plain "java/io/Serializable" (some 0) with
  accessFlags := 1537
  interfaces := #[]
  cf := some (fileOf pool2 1 #[] #[] 1537 3 #[] #[])
  fields := #[]
  methods := #[]
  instanceTypes := #[]
  staticTypes := #[]
  resolved := Array.replicate 7 none
  statics := none }

def pool3 : Array CpInfo := pool [(1, .class_ 2), (0, u "java/lang/Comparable"), (0, .class_ 4), (0, u "java/lang/Object")] 7

/-- java/lang/Comparable -/
def k3 : Class := { plain "java/lang/Comparable" (some 0) with
  accessFlags := 1537
  interfaces := #[]
  cf := some (fileOf pool3 1 #[] #[] 1537 3 #[] #[])
  fields := #[]
  methods := #[]
  instanceTypes := #[]
  staticTypes := #[]
  resolved := Array.replicate 12 none
  statics := none }

def pool4 : Array CpInfo := pool [(2, .class_ 4), (1, u "java/lang/CharSequence"), (0, u "length"), (0, u "()I"), (40, .class_ 48), (0, u "java/lang/CharSequence$1CodePointIterator"), (10, .class_ 60), (0, u "java/lang/CharSequence$1CharIterator"), (5, .class_ 67), (0, u "java/lang/Object")] 63

def k4m0 : Method := { name := "length", desc := "()I", sig := { parameters := [], returnType := some .int }, accessFlags := 1025, code := none }
/-- java/lang/CharSequence -/
def k4 : Class := { plain "java/lang/CharSequence" (some 0) with
  accessFlags := 1537
  interfaces := #[]
  cf := some (fileOf pool4 2 #[.nestMembers #[47, 59]] #[{ accessFlags := 1025, nameIndex := 5, descriptorIndex := 6, attributes := #[] }] 1537 66 #[] #[])
  fields := #[]
  methods := #[k4m0]
  instanceTypes := #[]
  staticTypes := #[]
  resolved := Array.replicate 131 none
  statics := none }

def pool5 : Array CpInfo := pool [(1, .class_ 2), (0, u "java/lang/constant/Constable"), (0, .class_ 4), (0, u "java/lang/Object")] 6

/-- java/lang/constant/Constable -/
def k5 : Class := { plain "java/lang/constant/Constable" (some 0) with
  accessFlags := 1537
  interfaces := #[]
  cf := some (fileOf pool5 1 #[] #[] 1537 3 #[] #[])
  fields := #[]
  methods := #[]
  instanceTypes := #[]
  staticTypes := #[]
  resolved := Array.replicate 11 none
  statics := none }

def pool6 : Array CpInfo := pool [(1, .class_ 2), (0, u "java/lang/constant/ConstantDesc"), (0, .class_ 4), (0, u "java/lang/Object")] 32

/-- java/lang/constant/ConstantDesc -/
def k6 : Class := { plain "java/lang/constant/ConstantDesc" (some 0) with
  accessFlags := 1537
  interfaces := #[]
  cf := some (fileOf pool6 1 #[] #[] 1537 3 #[] #[])
  fields := #[]
  methods := #[]
  instanceTypes := #[]
  staticTypes := #[]
  resolved := Array.replicate 37 none
  statics := none }

def pool7 : Array CpInfo := pool [(1, .methodref 2 3), (0, .class_ 4), (0, .nameAndType 5 6), (0, u "java/lang/Object"), (0, u "<init>"), (0, u "()V"), (2, .fieldref 10 11), (0, .class_ 12), (0, .nameAndType 13 14), (0, u "java/lang/String"), (0, u "value"), (0, u "[B"), (0, .fieldref 10 16), (0, .nameAndType 17 18), (0, u "coder"), (0, u "B"), (2, u "hash"), (0, u "I"), (2, u "hashIsZero"), (0, u "Z"), (0, .methodref 10 28), (0, .nameAndType 5 29), (0, u "([CIILjava/lang/Void;)V"), (8, .fieldref 10 39), (0, .nameAndType 40 26), (0, u "COMPACT_STRINGS"), (1, .class_ 44), (1, u "java/lang/StringUTF16"), (0, u "compress"), (1, .methodref 42 48), (0, .nameAndType 49 50), (0, u "coderFromArrayLen"), (0, u "([BI)B"), (2, u "toBytes"), (0, .methodref 55 56), (0, .class_ 57), (0, .nameAndType 58 59), (0, u "java/util/Arrays"), (0, u "copyOfRange"), (0, u "([BII)[B"), (47, .class_ 109), (1, u "java/lang/StringLatin1"), (32, u "()Z"), (34, .methodref 42 178), (0, .nameAndType 45 179), (0, u "([CII)[B"), (13, .class_ 195), (1, u "java/lang/System"), (13, .methodref 10 210), (0, .nameAndType 5 211), (0, u "([BB)V"), (0, .methodref 193 213), (0, .nameAndType 214 215), (0, u "arraycopy"), (0, u "(Ljava/lang/Object;ILjava/lang/Object;II)V"), (118, u "()I"), (0, .methodref 10 336), (0, .nameAndType 17 337), (0, u "()B"), (2, u "()[B"), (28, u "(C)Z"), (119, .methodref 10 490), (0, .nameAndType 5 491), (0, u "(Ljava/lang/AbstractStringBuilder;Ljava/lang/Void;)V"), (0, .methodref 10 493), (0, .nameAndType 494 142), (0, u "isLatin1"), (10, .methodref 10 506), (0, .nameAndType 507 334), (0, u "length"), (5, u "checkFromToIndex"), (7, .methodref 10 522), (0, .nameAndType 523 524), (0, u "checkBoundsBeginEnd"), (0, u "(III)V"), (7, u "getBytes"), (8, .methodref 107 542), (0, .nameAndType 543 544), (0, u "equals"), (0, u "([B[B)Z"), (4, .methodref 550 506), (0, .class_ 551), (0, u "java/lang/AbstractStringBuilder"), (0, .methodref 550 553), (0, .nameAndType 554 340), (0, u "getValue"), (18, u "(Ljava/lang/Object;)Z"), (1, .class_ 576), (0, u "java/lang/CharSequence"), (22, u "CASE_INSENSITIVE_ORDER"), (0, u "Ljava/util/Comparator;"), (82, u "substring"), (0, u "(II)Ljava/lang/String;"), (0, .methodref 107 686), (0, .nameAndType 687 688), (0, u "newString"), (0, u "([BII)Ljava/lang/String;"), (93, u "valueOf"), (0, u "(C)Ljava/lang/String;"), (37, u "([BIB)V"), (188, u "([C)V"), (4, .methodref 107 1016), (0, .nameAndType 1017 369), (0, u "canEncode"), (0, .methodref 107 1019), (0, .nameAndType 53 1020), (0, u "(C)[B"), (26, .methodref 550 493), (5, .fieldref 1054 1055), (0, .class_ 1056), (0, .nameAndType 1057 1058), (0, u "jdk/internal/util/Preconditions"), (0, u "SIOOBE_FORMATTER"), (0, u "Ljava/util/function/BiFunction;"), (3, .methodref 1054 1063), (0, .nameAndType 513 1064), (0, u "(IIILjava/util/function/BiFunction;)I"), (36, u "serialPersistentFields"), (0, u "[Ljava/io/ObjectStreamField;"), (0, .class_ 1104), (0, u "java/lang/String$CaseInsensitiveComparator"), (1, .class_ 1107), (0, u "java/io/Serializable"), (0, .class_ 1109), (0, u "java/lang/Comparable"), (0, .class_ 1111), (0, u "java/lang/constant/Constable"), (0, .class_ 1113), (0, u "java/lang/constant/ConstantDesc"), (2, u "serialVersionUID"), (0, u "J"), (3, u "REPL"), (0, u "C"), (2, u "LATIN1"), (1, u "UTF16"), (105, u "(Ljava/lang/StringBuilder;)V")] 217

def k7m0 : Method := { name := "<init>", desc := "()V", sig := { parameters := [], returnType := none }, accessFlags := 1, code := none }
def k7c1 : Code := { maxStack := 5, maxLocals := 2, code := jdk_42_method_3_code, exceptionTable := #[], attributes := #[] }
def k7m1 : Method := { name := "<init>", desc := "([C)V", sig := { parameters := [(.array .char)], returnType := none }, accessFlags := 1, code := some k7c1 }
def k7c2 : Code := { maxStack := 3, maxLocals := 2, code := jdk_42_method_53_code, exceptionTable := #[], attributes := #[] }
def k7m2 : Method := { name := "<init>", desc := "(Ljava/lang/StringBuilder;)V", sig := { parameters := [(.object "java/lang/StringBuilder")], returnType := none }, accessFlags := 1, code := some k7c2 }
def k7c3 : Code := { maxStack := 2, maxLocals := 1, code := jdk_42_method_54_code, exceptionTable := #[], attributes := #[] }
def k7m3 : Method := { name := "length", desc := "()I", sig := { parameters := [], returnType := some .int }, accessFlags := 1, code := some k7c3 }
def k7c4 : Code := { maxStack := 2, maxLocals := 3, code := jdk_42_method_66_code, exceptionTable := #[], attributes := #[] }
def k7m4 : Method := { name := "equals", desc := "(Ljava/lang/Object;)Z", sig := { parameters := [(.object "java/lang/Object")], returnType := some .boolean }, accessFlags := 1, code := some k7c4 }
def k7c5 : Code := { maxStack := 3, maxLocals := 5, code := jdk_42_method_92_code, exceptionTable := #[], attributes := #[] }
def k7m5 : Method := { name := "substring", desc := "(II)Ljava/lang/String;", sig := { parameters := [.int, .int], returnType := some (.object "java/lang/String") }, accessFlags := 1, code := some k7c5 }
def k7c6 : Code := { maxStack := 4, maxLocals := 1, code := jdk_42_method_139_code, exceptionTable := #[], attributes := #[] }
def k7m6 : Method := { name := "valueOf", desc := "(C)Ljava/lang/String;", sig := { parameters := [.char], returnType := some (.object "java/lang/String") }, accessFlags := 9, code := some k7c6 }
def k7c7 : Code := { maxStack := 5, maxLocals := 4, code := jdk_42_method_147_code, exceptionTable := #[], attributes := #[] }
def k7m7 : Method := { name := "getBytes", desc := "([BIB)V", sig := { parameters := [(.array .byte), .int, .byte], returnType := none }, accessFlags := 0, code := some k7c7 }
def k7c8 : Code := { maxStack := 4, maxLocals := 6, code := jdk_42_method_149_code, exceptionTable := #[], attributes := #[] }
def k7m8 : Method := { name := "<init>", desc := "([CIILjava/lang/Void;)V", sig := { parameters := [(.array .char), .int, .int, (.object "java/lang/Void")], returnType := none }, accessFlags := 2, code := some k7c8 }
def k7c9 : Code := { maxStack := 5, maxLocals := 5, code := jdk_42_method_150_code, exceptionTable := #[], attributes := #[] }
def k7m9 : Method := { name := "<init>", desc := "(Ljava/lang/AbstractStringBuilder;Ljava/lang/Void;)V", sig := { parameters := [(.object "java/lang/AbstractStringBuilder"), (.object "java/lang/Void")], returnType := none }, accessFlags := 0, code := some k7c9 }
def k7c10 : Code := { maxStack := 2, maxLocals := 3, code := jdk_42_method_151_code, exceptionTable := #[], attributes := #[] }
def k7m10 : Method := { name := "<init>", desc := "([BB)V", sig := { parameters := [(.array .byte), .byte], returnType := none }, accessFlags := 0, code := some k7c10 }
def k7c11 : Code := { maxStack := 1, maxLocals := 1, code := jdk_42_method_152_code, exceptionTable := #[], attributes := #[] }
def k7m11 : Method := { name := "coder", desc := "()B", sig := { parameters := [], returnType := some .byte }, accessFlags := 0, code := some k7c11 }
def k7c12 : Code := { maxStack := 1, maxLocals := 1, code := jdk_42_method_154_code, exceptionTable := #[], attributes := #[] }
def k7m12 : Method := { name := "isLatin1", desc := "()Z", sig := { parameters := [], returnType := some .boolean }, accessFlags := 0, code := some k7c12 }
def k7c13 : Code := { maxStack := 4, maxLocals := 3, code := jdk_42_method_158_code, exceptionTable := #[], attributes := #[] }
def k7m13 : Method := { name := "checkBoundsBeginEnd", desc := "(III)V", sig := { parameters := [.int, .int, .int], returnType := none }, accessFlags := 8, code := some k7c13 }
/-- java/lang/String -/
def k7 : Class := { plain "java/lang/String" (some 0) with
  accessFlags := 49
  interfaces := #[2, 3, 4, 5, 6]
  cf := some (fileOf pool7 10 #[.nestMembers #[1103]] #[{ accessFlags := 1, nameIndex := 5, descriptorIndex := 6, attributes := #[] }, { accessFlags := 1, nameIndex := 5, descriptorIndex := 1010, attributes := #[] }, { accessFlags := 1, nameIndex := 5, descriptorIndex := 1233, attributes := #[] }, { accessFlags := 1, nameIndex := 507, descriptorIndex := 334, attributes := #[] }, { accessFlags := 1, nameIndex := 543, descriptorIndex := 573, attributes := #[] }, { accessFlags := 1, nameIndex := 683, descriptorIndex := 684, attributes := #[] }, { accessFlags := 9, nameIndex := 782, descriptorIndex := 783, attributes := #[] }, { accessFlags := 0, nameIndex := 532, descriptorIndex := 821, attributes := #[] }, { accessFlags := 2, nameIndex := 5, descriptorIndex := 29, attributes := #[] }, { accessFlags := 0, nameIndex := 5, descriptorIndex := 491, attributes := #[] }, { accessFlags := 0, nameIndex := 5, descriptorIndex := 211, attributes := #[] }, { accessFlags := 0, nameIndex := 17, descriptorIndex := 337, attributes := #[] }, { accessFlags := 0, nameIndex := 494, descriptorIndex := 142, attributes := #[] }, { accessFlags := 8, nameIndex := 523, descriptorIndex := 524, attributes := #[] }] 49 2 #[1106, 1108, 575, 1110, 1112] #[{ accessFlags := 18, nameIndex := 13, descriptorIndex := 14, attributes := #[] }, { accessFlags := 18, nameIndex := 17, descriptorIndex := 18, attributes := #[] }, { accessFlags := 2, nameIndex := 21, descriptorIndex := 22, attributes := #[] }, { accessFlags := 2, nameIndex := 25, descriptorIndex := 26, attributes := #[] }, { accessFlags := 26, nameIndex := 1116, descriptorIndex := 1117, attributes := #[] }, { accessFlags := 24, nameIndex := 40, descriptorIndex := 26, attributes := #[] }, { accessFlags := 26, nameIndex := 1101, descriptorIndex := 1102, attributes := #[] }, { accessFlags := 26, nameIndex := 1121, descriptorIndex := 1122, attributes := #[] }, { accessFlags := 25, nameIndex := 599, descriptorIndex := 600, attributes := #[] }, { accessFlags := 24, nameIndex := 1125, descriptorIndex := 18, attributes := #[] }, { accessFlags := 24, nameIndex := 1127, descriptorIndex := 18, attributes := #[] }])
  fields := #[{ name := "value", type := (.array .byte), accessFlags := 18, slot := 0, constantValue := 0 }, { name := "coder", type := .byte, accessFlags := 18, slot := 1, constantValue := 0 }, { name := "hash", type := .int, accessFlags := 2, slot := 2, constantValue := 0 }, { name := "hashIsZero", type := .boolean, accessFlags := 2, slot := 3, constantValue := 0 }, { name := "serialVersionUID", type := .long, accessFlags := 26, slot := 0, constantValue := 0 }, { name := "COMPACT_STRINGS", type := .boolean, accessFlags := 24, slot := 1, constantValue := 0 }, { name := "serialPersistentFields", type := (.array (.object "java/io/ObjectStreamField")), accessFlags := 26, slot := 2, constantValue := 0 }, { name := "REPL", type := .char, accessFlags := 26, slot := 3, constantValue := 0 }, { name := "CASE_INSENSITIVE_ORDER", type := (.object "java/util/Comparator"), accessFlags := 25, slot := 4, constantValue := 0 }, { name := "LATIN1", type := .byte, accessFlags := 24, slot := 5, constantValue := 0 }, { name := "UTF16", type := .byte, accessFlags := 24, slot := 6, constantValue := 0 }]
  methods := #[k7m0, k7m1, k7m2, k7m3, k7m4, k7m5, k7m6, k7m7, k7m8, k7m9, k7m10, k7m11, k7m12, k7m13]
  instanceTypes := #[(.array .byte), .byte, .int, .boolean]
  staticTypes := #[.long, .boolean, (.array (.object "java/io/ObjectStreamField")), .char, (.object "java/util/Comparator"), .byte, .byte]
  resolved := Array.replicate 1451 none
  statics := some 0 }

def pool8 : Array CpInfo := pool [(2, .class_ 4), (0, .nameAndType 5 6), (0, u "com/example/amendatory/amendatory/Paragraphs$Builder"), (0, u "<init>"), (0, u "(I)V"), (0, .methodref 8 9), (0, .class_ 10), (0, .nameAndType 5 11), (0, u "java/lang/Object"), (0, u "()V"), (0, .fieldref 2 13), (0, .nameAndType 14 15), (0, u "NO_BOUNDS"), (0, u "[I"), (0, .fieldref 2 17), (0, .nameAndType 18 15), (0, u "bounds"), (0, .fieldref 2 20), (0, .nameAndType 21 22), (0, u "characters"), (0, u "I"), (0, .interfaceMethodref 24 25), (0, .class_ 26), (0, .nameAndType 27 28), (0, u "java/lang/CharSequence"), (0, u "length"), (0, u "()I"), (0, .methodref 2 30), (0, .nameAndType 31 32), (0, u "add"), (0, u "(Ljava/lang/CharSequence;II)Lcom/example/amendatory/amendatory/Paragraphs$Builder;"), (0, .methodref 2 34), (0, .nameAndType 35 6), (0, u "makeRoom"), (0, .fieldref 2 37), (0, .nameAndType 38 39), (0, u "text"), (0, u "Ljava/lang/StringBuilder;"), (0, .methodref 41 42), (0, .class_ 43), (0, .nameAndType 44 45), (0, u "java/lang/StringBuilder"), (0, u "append"), (0, u "(Ljava/lang/CharSequence;)Ljava/lang/StringBuilder;"), (3, .fieldref 2 50), (0, .nameAndType 51 22), (0, u "count"), (0, .methodref 53 54), (0, .class_ 55), (0, .nameAndType 56 57), (0, u "java/util/Arrays"), (0, u "copyOf"), (0, u "([II)[I"), (0, .methodref 41 25), (0, .class_ 60), (0, u "com/example/amendatory/amendatory/Paragraphs"), (28, u "last"), (0, u "Ljava/lang/CharSequence;"), (5, .methodref 97 98), (0, .class_ 99), (0, .nameAndType 100 101), (0, u "java/lang/Math"), (0, u "max"), (0, u "(II)I"), (0, .methodref 41 3), (0, .methodref 41 104), (0, .nameAndType 105 28), (0, u "capacity"), (0, .fieldref 59 107), (0, .nameAndType 108 109), (0, u "NONE"), (0, u "Lcom/example/amendatory/amendatory/Paragraphs;"), (0, .methodref 41 111), (0, .nameAndType 112 113), (0, u "toString"), (0, u "()Ljava/lang/String;"), (0, .methodref 59 115), (0, .nameAndType 5 116), (0, u "(Ljava/lang/String;[III)V"), (2, u "(Ljava/lang/CharSequence;)Lcom/example/amendatory/amendatory/Paragraphs$Builder;"), (1, u "clear"), (6, u "build"), (0, u "()Lcom/example/amendatory/amendatory/Paragraphs;")] 27

def k8m0 : Method := { name := "<init>", desc := "()V", sig := { parameters := [], returnType := none }, accessFlags := 0, code := none }
def k8c1 : Code := { maxStack := 2, maxLocals := 2, code := prog_44_method_2_code, exceptionTable := #[], attributes := #[] }
def k8m1 : Method := { name := "<init>", desc := "(I)V", sig := { parameters := [.int], returnType := none }, accessFlags := 0, code := some k8c1 }
def k8c2 : Code := { maxStack := 4, maxLocals := 2, code := prog_44_method_3_code, exceptionTable := #[], attributes := #[] }
def k8m2 : Method := { name := "add", desc := "(Ljava/lang/CharSequence;)Lcom/example/amendatory/amendatory/Paragraphs$Builder;", sig := { parameters := [(.object "java/lang/CharSequence")], returnType := some (.object "com/example/amendatory/amendatory/Paragraphs$Builder") }, accessFlags := 0, code := some k8c2 }
def k8c3 : Code := { maxStack := 5, maxLocals := 4, code := prog_44_method_4_code, exceptionTable := #[], attributes := #[] }
def k8m3 : Method := { name := "add", desc := "(Ljava/lang/CharSequence;II)Lcom/example/amendatory/amendatory/Paragraphs$Builder;", sig := { parameters := [(.object "java/lang/CharSequence"), .int, .int], returnType := some (.object "com/example/amendatory/amendatory/Paragraphs$Builder") }, accessFlags := 0, code := some k8c3 }
def k8c4 : Code := { maxStack := 2, maxLocals := 1, code := prog_44_method_5_code, exceptionTable := #[], attributes := #[] }
def k8m4 : Method := { name := "clear", desc := "()V", sig := { parameters := [], returnType := none }, accessFlags := 0, code := some k8c4 }
def k8c5 : Code := { maxStack := 6, maxLocals := 4, code := prog_44_method_9_code, exceptionTable := #[], attributes := #[] }
def k8m5 : Method := { name := "makeRoom", desc := "(I)V", sig := { parameters := [.int], returnType := none }, accessFlags := 2, code := some k8c5 }
def k8c6 : Code := { maxStack := 6, maxLocals := 1, code := prog_44_method_11_code, exceptionTable := #[], attributes := #[] }
def k8m6 : Method := { name := "build", desc := "()Lcom/example/amendatory/amendatory/Paragraphs;", sig := { parameters := [], returnType := some (.object "com/example/amendatory/amendatory/Paragraphs") }, accessFlags := 0, code := some k8c6 }
/-- com/example/amendatory/amendatory/Paragraphs$Builder -/
def k8 : Class := { plain "com/example/amendatory/amendatory/Paragraphs$Builder" (some 0) with
  accessFlags := 48
  interfaces := #[]
  cf := some (fileOf pool8 2 #[.nestHost 59] #[{ accessFlags := 0, nameIndex := 5, descriptorIndex := 11, attributes := #[] }, { accessFlags := 0, nameIndex := 5, descriptorIndex := 6, attributes := #[] }, { accessFlags := 0, nameIndex := 31, descriptorIndex := 119, attributes := #[] }, { accessFlags := 0, nameIndex := 31, descriptorIndex := 32, attributes := #[] }, { accessFlags := 0, nameIndex := 121, descriptorIndex := 11, attributes := #[] }, { accessFlags := 2, nameIndex := 35, descriptorIndex := 6, attributes := #[] }, { accessFlags := 0, nameIndex := 128, descriptorIndex := 129, attributes := #[] }] 48 8 #[] #[{ accessFlags := 26, nameIndex := 14, descriptorIndex := 15, attributes := #[] }, { accessFlags := 2, nameIndex := 38, descriptorIndex := 39, attributes := #[] }, { accessFlags := 2, nameIndex := 18, descriptorIndex := 15, attributes := #[] }, { accessFlags := 2, nameIndex := 51, descriptorIndex := 22, attributes := #[] }, { accessFlags := 2, nameIndex := 89, descriptorIndex := 90, attributes := #[] }, { accessFlags := 18, nameIndex := 21, descriptorIndex := 22, attributes := #[] }])
  fields := #[{ name := "NO_BOUNDS", type := (.array .int), accessFlags := 26, slot := 0, constantValue := 0 }, { name := "text", type := (.object "java/lang/StringBuilder"), accessFlags := 2, slot := 0, constantValue := 0 }, { name := "bounds", type := (.array .int), accessFlags := 2, slot := 1, constantValue := 0 }, { name := "count", type := .int, accessFlags := 2, slot := 2, constantValue := 0 }, { name := "last", type := (.object "java/lang/CharSequence"), accessFlags := 2, slot := 3, constantValue := 0 }, { name := "characters", type := .int, accessFlags := 18, slot := 4, constantValue := 0 }]
  methods := #[k8m0, k8m1, k8m2, k8m3, k8m4, k8m5, k8m6]
  instanceTypes := #[(.object "java/lang/StringBuilder"), (.array .int), .int, (.object "java/lang/CharSequence"), .int]
  staticTypes := #[(.array .int)]
  resolved := Array.replicate 157 none
  statics := some 1 }

def pool9 : Array CpInfo := pool [(8, .class_ 10), (1, u "java/lang/Iterable"), (24, .class_ 36), (0, u "java/lang/Object")] 25

/-- java/lang/Iterable -/
def k9 : Class := { plain "java/lang/Iterable" (some 0) with
  accessFlags := 1537
  interfaces := #[]
  cf := some (fileOf pool9 8 #[] #[] 1537 35 #[] #[])
  fields := #[]
  methods := #[]
  instanceTypes := #[]
  staticTypes := #[]
  resolved := Array.replicate 62 none
  statics := none }

def pool10 : Array CpInfo := pool [(10, .class_ 12), (1, u "java/util/Collection"), (47, .class_ 61), (0, u "java/lang/Object"), (0, .class_ 63), (0, u "java/lang/Iterable")] 51

/-- java/util/Collection -/
def k10 : Class := { plain "java/util/Collection" (some 0) with
  accessFlags := 1537
  interfaces := #[9]
  cf := some (fileOf pool10 10 #[] #[] 1537 60 #[62] #[])
  fields := #[]
  methods := #[]
  instanceTypes := #[]
  staticTypes := #[]
  resolved := Array.replicate 115 none
  statics := none }

def pool11 : Array CpInfo := pool [(1, .methodref 2 3), (0, .class_ 4), (0, .nameAndType 5 6), (0, u "java/lang/Object"), (0, u "<init>"), (0, u "()V"), (1, .class_ 10), (1, u "java/util/AbstractCollection"), (66, .class_ 78), (0, u "java/util/Collection")] 81

def k11c0 : Code := { maxStack := 1, maxLocals := 1, code := jdk_22_method_1_code, exceptionTable := #[], attributes := #[] }
def k11m0 : Method := { name := "<init>", desc := "()V", sig := { parameters := [], returnType := none }, accessFlags := 4, code := some k11c0 }
/-- java/util/AbstractCollection -/
def k11 : Class := { plain "java/util/AbstractCollection" (some 0) with
  accessFlags := 1057
  interfaces := #[10]
  cf := some (fileOf pool11 8 #[] #[{ accessFlags := 4, nameIndex := 5, descriptorIndex := 6, attributes := #[] }] 1057 2 #[77] #[])
  fields := #[]
  methods := #[k11m0]
  instanceTypes := #[]
  staticTypes := #[]
  resolved := Array.replicate 160 none
  statics := none }

def pool12 : Array CpInfo := pool [(8, .class_ 10), (1, u "java/util/SequencedCollection"), (15, .class_ 27), (0, u "java/lang/Object"), (0, .class_ 29), (0, u "java/util/Collection")] 27

/-- java/util/SequencedCollection -/
def k12 : Class := { plain "java/util/SequencedCollection" (some 0) with
  accessFlags := 1537
  interfaces := #[10]
  cf := some (fileOf pool12 8 #[] #[] 1537 26 #[28] #[])
  fields := #[]
  methods := #[]
  instanceTypes := #[]
  staticTypes := #[]
  resolved := Array.replicate 57 none
  statics := none }

def pool13 : Array CpInfo := pool [(8, .class_ 10), (1, u "java/util/List"), (92, .class_ 104), (0, u "java/lang/Object"), (15, .class_ 121), (0, u "java/util/SequencedCollection")] 129

/-- java/util/List -/
def k13 : Class := { plain "java/util/List" (some 0) with
  accessFlags := 1537
  interfaces := #[12]
  cf := some (fileOf pool13 8 #[] #[] 1537 103 #[120] #[])
  fields := #[]
  methods := #[]
  instanceTypes := #[]
  staticTypes := #[]
  resolved := Array.replicate 251 none
  statics := none }

def pool14 : Array CpInfo := pool [(1, .methodref 2 3), (0, .class_ 4), (0, .nameAndType 5 6), (0, u "java/util/AbstractCollection"), (0, u "<init>"), (0, u "()V"), (0, .fieldref 8 9), (0, .class_ 10), (0, .nameAndType 11 12), (0, u "java/util/AbstractList"), (0, u "modCount"), (0, u "I"), (64, .class_ 78), (0, u "java/util/AbstractList$Itr"), (3, .class_ 83), (0, u "java/util/AbstractList$ListItr"), (9, .class_ 94), (0, u "java/util/AbstractList$RandomAccessSubList"), (3, .class_ 99), (0, u "java/util/AbstractList$SubList"), (33, .class_ 134), (0, u "java/util/List"), (73, .class_ 209), (0, u "java/util/AbstractList$SubList$1"), (0, .class_ 211), (0, u "java/util/AbstractList$RandomAccessSpliterator")] 6

def k14c0 : Code := { maxStack := 2, maxLocals := 1, code := jdk_39_method_1_code, exceptionTable := #[], attributes := #[] }
def k14m0 : Method := { name := "<init>", desc := "()V", sig := { parameters := [], returnType := none }, accessFlags := 4, code := some k14c0 }
/-- java/util/AbstractList -/
def k14 : Class := { plain "java/util/AbstractList" (some 11) with
  accessFlags := 1057
  interfaces := #[13]
  cf := some (fileOf pool14 8 #[.nestMembers #[93, 98, 208, 210, 82, 77]] #[{ accessFlags := 4, nameIndex := 5, descriptorIndex := 6, attributes := #[] }] 1057 2 #[133] #[{ accessFlags := 132, nameIndex := 11, descriptorIndex := 12, attributes := #[] }])
  fields := #[{ name := "modCount", type := .int, accessFlags := 132, slot := 0, constantValue := 0 }]
  methods := #[k14m0]
  instanceTypes := #[.int]
  staticTypes := #[]
  resolved := Array.replicate 218 none
  statics := none }

def pool15 : Array CpInfo := pool [(1, .class_ 2), (0, u "java/util/RandomAccess"), (0, .class_ 4), (0, u "java/lang/Object")] 2

/-- java/util/RandomAccess -/
def k15 : Class := { plain "java/util/RandomAccess" (some 0) with
  accessFlags := 1537
  interfaces := #[]
  cf := some (fileOf pool15 1 #[] #[] 1537 3 #[] #[])
  fields := #[]
  methods := #[]
  instanceTypes := #[]
  staticTypes := #[]
  resolved := Array.replicate 7 none
  statics := none }

def pool16 : Array CpInfo := pool [(1, .methodref 2 3), (0, .class_ 4), (0, .nameAndType 5 6), (0, u "java/util/AbstractList"), (0, u "<init>"), (0, u "()V"), (0, .fieldref 8 9), (0, .class_ 10), (0, .nameAndType 11 12), (0, u "com/example/amendatory/amendatory/Paragraphs"), (0, u "text"), (0, u "Ljava/lang/String;"), (0, .fieldref 8 14), (0, .nameAndType 15 16), (0, u "bounds"), (0, u "[I"), (0, .fieldref 8 18), (0, .nameAndType 19 20), (0, u "from"), (0, u "I"), (0, .fieldref 8 22), (0, .nameAndType 23 20), (0, u "to"), (0, .class_ 25), (0, u "com/example/amendatory/amendatory/Paragraphs$Builder"), (21, .methodref 8 48), (0, .nameAndType 49 50), (0, u "size"), (0, u "()I"), (5, .methodref 57 58), (0, .class_ 59), (0, .nameAndType 60 61), (0, u "java/lang/String"), (0, u "substring"), (0, u "(II)Ljava/lang/String;"), (15, u "(Ljava/lang/String;[III)V"), (1, .class_ 81), (1, u "com/example/amendatory/amendatory/Paragraphs$Test"), (34, .class_ 117), (0, u "com/example/amendatory/amendatory/Paragraphs$Headed"), (9, u "Lcom/example/amendatory/amendatory/Paragraphs;"), (27, u "get"), (74, u "(I)Ljava/lang/String;"), (0, .class_ 232), (0, u "com/example/amendatory/amendatory/Paragraphs$Passing"), (7, u "NONE"), (0, .class_ 242), (0, u "java/util/RandomAccess"), (42, .class_ 286), (0, u "com/example/amendatory/amendatory/Paragraphs$Builder$Last")] 51

def k16c0 : Code := { maxStack := 2, maxLocals := 5, code := prog_43_method_1_code, exceptionTable := #[], attributes := #[] }
def k16m0 : Method := { name := "<init>", desc := "(Ljava/lang/String;[III)V", sig := { parameters := [(.object "java/lang/String"), (.array .int), .int, .int], returnType := none }, accessFlags := 2, code := some k16c0 }
def k16c1 : Code := { maxStack := 5, maxLocals := 2, code := prog_43_method_3_code, exceptionTable := #[], attributes := #[] }
def k16m1 : Method := { name := "get", desc := "(I)Ljava/lang/String;", sig := { parameters := [.int], returnType := some (.object "java/lang/String") }, accessFlags := 1, code := some k16c1 }
def k16c2 : Code := { maxStack := 2, maxLocals := 1, code := prog_43_method_4_code, exceptionTable := #[], attributes := #[] }
def k16m2 : Method := { name := "size", desc := "()I", sig := { parameters := [], returnType := some .int }, accessFlags := 1, code := some k16c2 }
/-- com/example/amendatory/amendatory/Paragraphs -/
def k16 : Class := { plain "com/example/amendatory/amendatory/Paragraphs" (some 14) with
  accessFlags := 48
  interfaces := #[15]
  cf := some (fileOf pool16 8 #[.nestMembers #[116, 24, 285, 231, 79]] #[{ accessFlags := 2, nameIndex := 5, descriptorIndex := 77, attributes := #[] }, { accessFlags := 1, nameIndex := 155, descriptorIndex := 230, attributes := #[] }, { accessFlags := 1, nameIndex := 49, descriptorIndex := 50, attributes := #[] }] 48 2 #[241] #[{ accessFlags := 24, nameIndex := 240, descriptorIndex := 127, attributes := #[] }, { accessFlags := 18, nameIndex := 11, descriptorIndex := 12, attributes := #[] }, { accessFlags := 18, nameIndex := 15, descriptorIndex := 16, attributes := #[] }, { accessFlags := 18, nameIndex := 19, descriptorIndex := 20, attributes := #[] }, { accessFlags := 18, nameIndex := 23, descriptorIndex := 20, attributes := #[] }])
  fields := #[{ name := "NONE", type := (.object "com/example/amendatory/amendatory/Paragraphs"), accessFlags := 24, slot := 0, constantValue := 0 }, { name := "text", type := (.object "java/lang/String"), accessFlags := 18, slot := 1, constantValue := 0 }, { name := "bounds", type := (.array .int), accessFlags := 18, slot := 2, constantValue := 0 }, { name := "from", type := .int, accessFlags := 18, slot := 3, constantValue := 0 }, { name := "to", type := .int, accessFlags := 18, slot := 4, constantValue := 0 }]
  methods := #[k16m0, k16m1, k16m2]
  instanceTypes := #[.int, (.object "java/lang/String"), (.array .int), .int, .int]
  staticTypes := #[(.object "com/example/amendatory/amendatory/Paragraphs")]
  resolved := Array.replicate 338 none
  statics := some 2 }

def pool17 : Array CpInfo := pool [(6, .class_ 8), (1, u "java/lang/Object"), (0, u "<init>"), (0, u "()V"), (1, .class_ 14), (1, u "java/lang/StringUTF16"), (31, u "$assertionsDisabled"), (0, u "Z"), (13, u "HI_BYTE_SHIFT"), (0, u "I"), (2, u "LO_BYTE_SHIFT"), (49, .methodref 12 116), (0, .nameAndType 117 118), (0, u "compress"), (0, u "([CI[BII)I"), (3, u "([CII)[B"), (138, u "coderFromArrayLen"), (0, u "([BI)B"), (106, .class_ 371), (1, u "java/lang/StringUTF16$LinesSpliterator"), (58, u "MAX_LENGTH"), (196, .class_ 628), (0, u "java/lang/StringUTF16$CodePointsSpliterator"), (0, .class_ 630), (0, u "java/lang/StringUTF16$CharsSpliterator")] 4

def k17m0 : Method := { name := "<init>", desc := "()V", sig := { parameters := [], returnType := none }, accessFlags := 0, code := none }
def k17c1 : Code := { maxStack := 2, maxLocals := 2, code := jdk_52_method_15_code, exceptionTable := #[], attributes := #[] }
def k17m1 : Method := { name := "coderFromArrayLen", desc := "([BI)B", sig := { parameters := [(.array .byte), .int], returnType := some .byte }, accessFlags := 8, code := some k17c1 }
def k17c2 : Code := { maxStack := 5, maxLocals := 6, code := jdk_52_method_16_code, exceptionTable := #[], attributes := #[] }
def k17m2 : Method := { name := "compress", desc := "([CII)[B", sig := { parameters := [(.array .char), .int, .int], returnType := some (.array .byte) }, accessFlags := 9, code := some k17c2 }
def k17c3 : Code := { maxStack := 3, maxLocals := 7, code := jdk_52_method_21_code, exceptionTable := #[], attributes := #[] }
def k17m3 : Method := { name := "compress", desc := "([CI[BII)I", sig := { parameters := [(.array .char), .int, (.array .byte), .int, .int], returnType := some .int }, accessFlags := 9, code := some k17c3 }
/-- java/lang/StringUTF16 -/
def k17 : Class := { plain "java/lang/StringUTF16" (some 0) with
  accessFlags := 48
  interfaces := #[]
  cf := some (fileOf pool17 12 #[.nestMembers #[627, 629, 369]] #[{ accessFlags := 0, nameIndex := 9, descriptorIndex := 10, attributes := #[] }, { accessFlags := 8, nameIndex := 261, descriptorIndex := 262, attributes := #[] }, { accessFlags := 9, nameIndex := 117, descriptorIndex := 122, attributes := #[] }, { accessFlags := 9, nameIndex := 117, descriptorIndex := 118, attributes := #[] }] 48 6 #[] #[{ accessFlags := 26, nameIndex := 61, descriptorIndex := 62, attributes := #[] }, { accessFlags := 26, nameIndex := 65, descriptorIndex := 62, attributes := #[] }, { accessFlags := 24, nameIndex := 430, descriptorIndex := 62, attributes := #[] }, { accessFlags := 4120, nameIndex := 46, descriptorIndex := 47, attributes := #[] }])
  fields := #[{ name := "HI_BYTE_SHIFT", type := .int, accessFlags := 26, slot := 0, constantValue := 0 }, { name := "LO_BYTE_SHIFT", type := .int, accessFlags := 26, slot := 1, constantValue := 0 }, { name := "MAX_LENGTH", type := .int, accessFlags := 24, slot := 2, constantValue := 0 }, { name := "$assertionsDisabled", type := .boolean, accessFlags := 4120, slot := 3, constantValue := 0 }]
  methods := #[k17m0, k17m1, k17m2, k17m3]
  instanceTypes := #[]
  staticTypes := #[.int, .int, .int, .boolean]
  resolved := Array.replicate 635 none
  statics := none }

def pool18 : Array CpInfo := pool [(1, .class_ 2), (0, u "java/lang/Appendable"), (0, .class_ 4), (0, u "java/lang/Object")] 9

/-- java/lang/Appendable -/
def k18 : Class := { plain "java/lang/Appendable" (some 0) with
  accessFlags := 1537
  interfaces := #[]
  cf := some (fileOf pool18 1 #[] #[] 1537 3 #[] #[])
  fields := #[]
  methods := #[]
  instanceTypes := #[]
  staticTypes := #[]
  resolved := Array.replicate 14 none
  statics := none }

def pool19 : Array CpInfo := pool [(1, .class_ 2), (0, u "java/lang/String"), (0, .methodref 4 5), (0, .class_ 6), (0, .nameAndType 7 8), (0, u "java/lang/Object"), (0, u "<init>"), (0, u "()V"), (1, .class_ 12), (1, u "java/lang/AbstractStringBuilder"), (0, u "EMPTYVALUE"), (0, u "[B"), (0, .fieldref 10 16), (0, .nameAndType 17 14), (0, u "value"), (0, .fieldref 1 19), (0, .nameAndType 20 21), (0, u "COMPACT_STRINGS"), (0, u "Z"), (0, .fieldref 10 23), (0, .nameAndType 24 25), (0, u "coder"), (0, u "B"), (6, .methodref 1 33), (0, .nameAndType 34 35), (0, u "length"), (0, u "()I"), (4, .methodref 1 41), (0, .nameAndType 24 42), (0, u "()B"), (0, .methodref 10 44), (0, .nameAndType 45 46), (0, u "append"), (0, u "(Ljava/lang/String;)Ljava/lang/AbstractStringBuilder;"), (1, .class_ 49), (0, u "java/lang/CharSequence"), (19, u "(Ljava/lang/String;)V"), (0, .methodref 10 71), (0, .nameAndType 72 42), (0, u "getCoder"), (0, .fieldref 10 74), (0, .nameAndType 75 21), (0, u "maybeLatin1"), (2, u "(Ljava/lang/CharSequence;)Ljava/lang/AbstractStringBuilder;"), (0, .fieldref 10 80), (0, .nameAndType 81 82), (0, u "count"), (0, u "I"), (2, u "isLatin1"), (0, u "()Z"), (13, .methodref 10 101), (0, .nameAndType 102 103), (0, u "ensureCapacityInternal"), (0, u "(I)V"), (56, .methodref 10 33), (47, .methodref 10 209), (0, .nameAndType 210 211), (0, u "putStringAt"), (0, u "(ILjava/lang/String;)V"), (0, .methodref 10 213), (0, .nameAndType 45 214), (0, u "(Ljava/lang/AbstractStringBuilder;)Ljava/lang/AbstractStringBuilder;"), (0, .methodref 10 216), (0, .nameAndType 217 218), (0, u "inflateIfNeededFor"), (0, u "(Ljava/lang/AbstractStringBuilder;)V"), (0, .methodref 10 220), (0, .nameAndType 221 222), (0, u "getBytes"), (0, u "([BIB)V"), (86, .methodref 310 311), (0, .class_ 312), (0, .nameAndType 313 314), (0, u "java/lang/System"), (0, u "arraycopy"), (0, u "(Ljava/lang/Object;ILjava/lang/Object;II)V"), (82, .methodref 10 398), (0, .nameAndType 217 69), (0, .methodref 1 220), (3, u "()[B"), (40, .class_ 445), (0, u "java/lang/Appendable"), (5, u "capacity"), (100, u "getValue")] 56

def k19m0 : Method := { name := "<init>", desc := "()V", sig := { parameters := [], returnType := none }, accessFlags := 0, code := none }
def k19c1 : Code := { maxStack := 2, maxLocals := 2, code := jdk_68_method_2_code, exceptionTable := #[], attributes := #[] }
def k19m1 : Method := { name := "<init>", desc := "(I)V", sig := { parameters := [.int], returnType := none }, accessFlags := 0, code := some k19c1 }
def k19c2 : Code := { maxStack := 1, maxLocals := 1, code := jdk_68_method_6_code, exceptionTable := #[], attributes := #[] }
def k19m2 : Method := { name := "length", desc := "()I", sig := { parameters := [], returnType := some .int }, accessFlags := 1, code := some k19c2 }
def k19c3 : Code := { maxStack := 2, maxLocals := 1, code := jdk_68_method_7_code, exceptionTable := #[], attributes := #[] }
def k19m3 : Method := { name := "capacity", desc := "()I", sig := { parameters := [], returnType := some .int }, accessFlags := 1, code := some k19c3 }
def k19c4 : Code := { maxStack := 4, maxLocals := 3, code := jdk_68_method_9_code, exceptionTable := #[], attributes := #[] }
def k19m4 : Method := { name := "ensureCapacityInternal", desc := "(I)V", sig := { parameters := [.int], returnType := none }, accessFlags := 2, code := some k19c4 }
def k19c5 : Code := { maxStack := 3, maxLocals := 3, code := jdk_68_method_22_code, exceptionTable := #[], attributes := #[] }
def k19m5 : Method := { name := "append", desc := "(Ljava/lang/String;)Ljava/lang/AbstractStringBuilder;", sig := { parameters := [(.object "java/lang/String")], returnType := some (.object "java/lang/AbstractStringBuilder") }, accessFlags := 1, code := some k19c5 }
def k19c6 : Code := { maxStack := 4, maxLocals := 3, code := jdk_68_method_24_code, exceptionTable := #[], attributes := #[] }
def k19m6 : Method := { name := "append", desc := "(Ljava/lang/AbstractStringBuilder;)Ljava/lang/AbstractStringBuilder;", sig := { parameters := [(.object "java/lang/AbstractStringBuilder")], returnType := some (.object "java/lang/AbstractStringBuilder") }, accessFlags := 0, code := some k19c6 }
def k19c7 : Code := { maxStack := 4, maxLocals := 2, code := jdk_68_method_25_code, exceptionTable := #[], attributes := #[] }
def k19m7 : Method := { name := "append", desc := "(Ljava/lang/CharSequence;)Ljava/lang/AbstractStringBuilder;", sig := { parameters := [(.object "java/lang/CharSequence")], returnType := some (.object "java/lang/AbstractStringBuilder") }, accessFlags := 1, code := some k19c7 }
def k19c8 : Code := { maxStack := 1, maxLocals := 1, code := jdk_68_method_64_code, exceptionTable := #[], attributes := #[] }
def k19m8 : Method := { name := "getValue", desc := "()[B", sig := { parameters := [], returnType := some (.array .byte) }, accessFlags := 16, code := some k19c8 }
def k19c9 : Code := { maxStack := 6, maxLocals := 4, code := jdk_68_method_65_code, exceptionTable := #[], attributes := #[] }
def k19m9 : Method := { name := "getBytes", desc := "([BIB)V", sig := { parameters := [(.array .byte), .int, .byte], returnType := none }, accessFlags := 0, code := some k19c9 }
def k19c10 : Code := { maxStack := 1, maxLocals := 1, code := jdk_68_method_67_code, exceptionTable := #[], attributes := #[] }
def k19m10 : Method := { name := "getCoder", desc := "()B", sig := { parameters := [], returnType := some .byte }, accessFlags := 16, code := some k19c10 }
def k19c11 : Code := { maxStack := 1, maxLocals := 1, code := jdk_68_method_68_code, exceptionTable := #[], attributes := #[] }
def k19m11 : Method := { name := "isLatin1", desc := "()Z", sig := { parameters := [], returnType := some .boolean }, accessFlags := 16, code := some k19c11 }
def k19c12 : Code := { maxStack := 2, maxLocals := 2, code := jdk_68_method_71_code, exceptionTable := #[], attributes := #[] }
def k19m12 : Method := { name := "inflateIfNeededFor", desc := "(Ljava/lang/String;)V", sig := { parameters := [(.object "java/lang/String")], returnType := none }, accessFlags := 2, code := some k19c12 }
def k19c13 : Code := { maxStack := 2, maxLocals := 2, code := jdk_68_method_72_code, exceptionTable := #[], attributes := #[] }
def k19m13 : Method := { name := "inflateIfNeededFor", desc := "(Ljava/lang/AbstractStringBuilder;)V", sig := { parameters := [(.object "java/lang/AbstractStringBuilder")], returnType := none }, accessFlags := 2, code := some k19c13 }
def k19c14 : Code := { maxStack := 4, maxLocals := 3, code := jdk_68_method_73_code, exceptionTable := #[], attributes := #[] }
def k19m14 : Method := { name := "putStringAt", desc := "(ILjava/lang/String;)V", sig := { parameters := [.int, (.object "java/lang/String")], returnType := none }, accessFlags := 2, code := some k19c14 }
/-- java/lang/AbstractStringBuilder -/
def k19 : Class := { plain "java/lang/AbstractStringBuilder" (some 0) with
  accessFlags := 1056
  interfaces := #[18, 4]
  cf := some (fileOf pool19 10 #[] #[{ accessFlags := 0, nameIndex := 7, descriptorIndex := 8, attributes := #[] }, { accessFlags := 0, nameIndex := 7, descriptorIndex := 103, attributes := #[] }, { accessFlags := 1, nameIndex := 34, descriptorIndex := 35, attributes := #[] }, { accessFlags := 1, nameIndex := 451, descriptorIndex := 35, attributes := #[] }, { accessFlags := 2, nameIndex := 102, descriptorIndex := 103, attributes := #[] }, { accessFlags := 1, nameIndex := 45, descriptorIndex := 46, attributes := #[] }, { accessFlags := 0, nameIndex := 45, descriptorIndex := 214, attributes := #[] }, { accessFlags := 1, nameIndex := 45, descriptorIndex := 78, attributes := #[] }, { accessFlags := 16, nameIndex := 552, descriptorIndex := 403, attributes := #[] }, { accessFlags := 0, nameIndex := 221, descriptorIndex := 222, attributes := #[] }, { accessFlags := 16, nameIndex := 72, descriptorIndex := 42, attributes := #[] }, { accessFlags := 16, nameIndex := 85, descriptorIndex := 86, attributes := #[] }, { accessFlags := 2, nameIndex := 217, descriptorIndex := 69, attributes := #[] }, { accessFlags := 2, nameIndex := 217, descriptorIndex := 218, attributes := #[] }, { accessFlags := 2, nameIndex := 210, descriptorIndex := 211, attributes := #[] }] 1056 4 #[444, 48] #[{ accessFlags := 0, nameIndex := 17, descriptorIndex := 14, attributes := #[] }, { accessFlags := 0, nameIndex := 24, descriptorIndex := 25, attributes := #[] }, { accessFlags := 0, nameIndex := 75, descriptorIndex := 21, attributes := #[] }, { accessFlags := 0, nameIndex := 81, descriptorIndex := 82, attributes := #[] }, { accessFlags := 26, nameIndex := 13, descriptorIndex := 14, attributes := #[] }])
  fields := #[{ name := "value", type := (.array .byte), accessFlags := 0, slot := 0, constantValue := 0 }, { name := "coder", type := .byte, accessFlags := 0, slot := 1, constantValue := 0 }, { name := "maybeLatin1", type := .boolean, accessFlags := 0, slot := 2, constantValue := 0 }, { name := "count", type := .int, accessFlags := 0, slot := 3, constantValue := 0 }, { name := "EMPTYVALUE", type := (.array .byte), accessFlags := 26, slot := 0, constantValue := 0 }]
  methods := #[k19m0, k19m1, k19m2, k19m3, k19m4, k19m5, k19m6, k19m7, k19m8, k19m9, k19m10, k19m11, k19m12, k19m13, k19m14]
  instanceTypes := #[(.array .byte), .byte, .boolean, .int]
  staticTypes := #[(.array .byte)]
  resolved := Array.replicate 609 none
  statics := none }

def pool20 : Array CpInfo := pool [(1, .methodref 2 3), (0, .class_ 4), (0, .nameAndType 5 6), (0, u "java/lang/AbstractStringBuilder"), (0, u "<init>"), (0, u "(I)V"), (11, .class_ 20), (1, u "java/lang/String"), (2, .methodref 24 25), (0, .class_ 26), (0, .nameAndType 27 28), (0, u "java/lang/StringBuilder"), (0, u "append"), (0, u "(Ljava/lang/String;)Ljava/lang/StringBuilder;"), (0, .methodref 2 30), (0, .nameAndType 27 31), (0, u "(Ljava/lang/String;)Ljava/lang/AbstractStringBuilder;"), (3, .methodref 2 36), (0, .nameAndType 27 37), (0, u "(Ljava/lang/CharSequence;)Ljava/lang/AbstractStringBuilder;"), (99, .methodref 18 138), (0, .nameAndType 5 139), (0, u "(Ljava/lang/StringBuilder;)V"), (5, u "()V"), (8, .nameAndType 155 156), (0, u "capacity"), (0, u "()I"), (144, u "(Ljava/lang/CharSequence;)Ljava/lang/StringBuilder;"), (40, .methodref 2 154), (0, .methodref 2 344), (0, .nameAndType 345 156), (0, u "length"), (3, .class_ 350), (0, u "java/lang/Appendable"), (0, .class_ 352), (0, u "java/io/Serializable"), (0, .class_ 354), (0, u "java/lang/Comparable"), (0, .class_ 356), (0, u "java/lang/CharSequence"), (0, u "serialVersionUID"), (0, u "J"), (40, u "toString"), (0, u "()Ljava/lang/String;")] 21

def k20m0 : Method := { name := "<init>", desc := "()V", sig := { parameters := [], returnType := none }, accessFlags := 1, code := none }
def k20c1 : Code := { maxStack := 2, maxLocals := 2, code := jdk_67_method_2_code, exceptionTable := #[], attributes := #[] }
def k20m1 : Method := { name := "<init>", desc := "(I)V", sig := { parameters := [.int], returnType := none }, accessFlags := 1, code := some k20c1 }
def k20c2 : Code := { maxStack := 2, maxLocals := 2, code := jdk_67_method_7_code, exceptionTable := #[], attributes := #[] }
def k20m2 : Method := { name := "append", desc := "(Ljava/lang/String;)Ljava/lang/StringBuilder;", sig := { parameters := [(.object "java/lang/String")], returnType := some (.object "java/lang/StringBuilder") }, accessFlags := 1, code := some k20c2 }
def k20c3 : Code := { maxStack := 2, maxLocals := 2, code := jdk_67_method_9_code, exceptionTable := #[], attributes := #[] }
def k20m3 : Method := { name := "append", desc := "(Ljava/lang/CharSequence;)Ljava/lang/StringBuilder;", sig := { parameters := [(.object "java/lang/CharSequence")], returnType := some (.object "java/lang/StringBuilder") }, accessFlags := 1, code := some k20c3 }
def k20c4 : Code := { maxStack := 3, maxLocals := 1, code := jdk_67_method_42_code, exceptionTable := #[], attributes := #[] }
def k20m4 : Method := { name := "toString", desc := "()Ljava/lang/String;", sig := { parameters := [], returnType := some (.object "java/lang/String") }, accessFlags := 1, code := some k20c4 }
def k20c5 : Code := { maxStack := 2, maxLocals := 2, code := jdk_67_method_80_code, exceptionTable := #[], attributes := #[] }
def k20m5 : Method := { name := "append", desc := "(Ljava/lang/String;)Ljava/lang/AbstractStringBuilder;", sig := { parameters := [(.object "java/lang/String")], returnType := some (.object "java/lang/AbstractStringBuilder") }, accessFlags := 4161, code := some k20c5 }
def k20c6 : Code := { maxStack := 1, maxLocals := 1, code := jdk_67_method_92_code, exceptionTable := #[], attributes := #[] }
def k20m6 : Method := { name := "capacity", desc := "()I", sig := { parameters := [], returnType := some .int }, accessFlags := 4161, code := some k20c6 }
def k20c7 : Code := { maxStack := 1, maxLocals := 1, code := jdk_67_method_93_code, exceptionTable := #[], attributes := #[] }
def k20m7 : Method := { name := "length", desc := "()I", sig := { parameters := [], returnType := some .int }, accessFlags := 4161, code := some k20c7 }
/-- java/lang/StringBuilder -/
def k20 : Class := { plain "java/lang/StringBuilder" (some 19) with
  accessFlags := 49
  interfaces := #[18, 2, 3, 4]
  cf := some (fileOf pool20 24 #[] #[{ accessFlags := 1, nameIndex := 5, descriptorIndex := 145, attributes := #[] }, { accessFlags := 1, nameIndex := 5, descriptorIndex := 6, attributes := #[] }, { accessFlags := 1, nameIndex := 27, descriptorIndex := 28, attributes := #[] }, { accessFlags := 1, nameIndex := 27, descriptorIndex := 301, attributes := #[] }, { accessFlags := 1, nameIndex := 399, descriptorIndex := 400, attributes := #[] }, { accessFlags := 4161, nameIndex := 27, descriptorIndex := 31, attributes := #[] }, { accessFlags := 4161, nameIndex := 155, descriptorIndex := 156, attributes := #[] }, { accessFlags := 4161, nameIndex := 345, descriptorIndex := 156, attributes := #[] }] 49 2 #[349, 351, 353, 355] #[{ accessFlags := 24, nameIndex := 357, descriptorIndex := 358, attributes := #[] }])
  fields := #[{ name := "serialVersionUID", type := .long, accessFlags := 24, slot := 0, constantValue := 0 }]
  methods := #[k20m0, k20m1, k20m2, k20m3, k20m4, k20m5, k20m6, k20m7]
  instanceTypes := #[(.array .byte), .byte, .boolean, .int]
  staticTypes := #[.long]
  resolved := Array.replicate 422 none
  statics := none }

def pool21 : Array CpInfo := pool [(1, .class_ 2), (0, u "java/lang/Math"), (1, .class_ 6), (1, u "java/lang/Object"), (0, u "<init>"), (0, u "()V"), (89, .class_ 100), (1, u "java/lang/Math$RandomNumberGeneratorHolder"), (71, u "negativeZeroFloatBits"), (0, u "J"), (2, u "negativeZeroDoubleBits"), (21, u "max"), (2, u "min"), (43, u "$assertionsDisabled"), (0, u "Z"), (88, u "(II)I"), (2, u "twoToTheDoubleScaleDown"), (0, u "D"), (4, u "twoToTheDoubleScaleUp"), (9, u "E"), (3, u "PI"), (2, u "TAU"), (2, u "DEGREES_TO_RADIANS"), (0, u "RADIANS_TO_DEGREES")] 94

def k21m0 : Method := { name := "<init>", desc := "()V", sig := { parameters := [], returnType := none }, accessFlags := 2, code := none }
def k21c1 : Code := { maxStack := 2, maxLocals := 2, code := jdk_29_method_65_code, exceptionTable := #[], attributes := #[] }
def k21m1 : Method := { name := "max", desc := "(II)I", sig := { parameters := [.int, .int], returnType := some .int }, accessFlags := 9, code := some k21c1 }
def k21c2 : Code := { maxStack := 2, maxLocals := 2, code := jdk_29_method_69_code, exceptionTable := #[], attributes := #[] }
def k21m2 : Method := { name := "min", desc := "(II)I", sig := { parameters := [.int, .int], returnType := some .int }, accessFlags := 9, code := some k21c2 }
/-- java/lang/Math -/
def k21 : Class := { plain "java/lang/Math" (some 0) with
  accessFlags := 49
  interfaces := #[]
  cf := some (fileOf pool21 1 #[.nestMembers #[98]] #[{ accessFlags := 2, nameIndex := 7, descriptorIndex := 8, attributes := #[] }, { accessFlags := 9, nameIndex := 198, descriptorIndex := 335, attributes := #[] }, { accessFlags := 9, nameIndex := 201, descriptorIndex := 335, attributes := #[] }] 49 4 #[] #[{ accessFlags := 25, nameIndex := 354, descriptorIndex := 339, attributes := #[] }, { accessFlags := 25, nameIndex := 358, descriptorIndex := 339, attributes := #[] }, { accessFlags := 25, nameIndex := 361, descriptorIndex := 339, attributes := #[] }, { accessFlags := 26, nameIndex := 364, descriptorIndex := 339, attributes := #[] }, { accessFlags := 26, nameIndex := 365, descriptorIndex := 339, attributes := #[] }, { accessFlags := 26, nameIndex := 172, descriptorIndex := 173, attributes := #[] }, { accessFlags := 26, nameIndex := 176, descriptorIndex := 173, attributes := #[] }, { accessFlags := 8, nameIndex := 344, descriptorIndex := 339, attributes := #[] }, { accessFlags := 8, nameIndex := 338, descriptorIndex := 339, attributes := #[] }, { accessFlags := 4120, nameIndex := 245, descriptorIndex := 246, attributes := #[] }])
  fields := #[{ name := "E", type := .double, accessFlags := 25, slot := 0, constantValue := 0 }, { name := "PI", type := .double, accessFlags := 25, slot := 1, constantValue := 0 }, { name := "TAU", type := .double, accessFlags := 25, slot := 2, constantValue := 0 }, { name := "DEGREES_TO_RADIANS", type := .double, accessFlags := 26, slot := 3, constantValue := 0 }, { name := "RADIANS_TO_DEGREES", type := .double, accessFlags := 26, slot := 4, constantValue := 0 }, { name := "negativeZeroFloatBits", type := .long, accessFlags := 26, slot := 5, constantValue := 0 }, { name := "negativeZeroDoubleBits", type := .long, accessFlags := 26, slot := 6, constantValue := 0 }, { name := "twoToTheDoubleScaleUp", type := .double, accessFlags := 8, slot := 7, constantValue := 0 }, { name := "twoToTheDoubleScaleDown", type := .double, accessFlags := 8, slot := 8, constantValue := 0 }, { name := "$assertionsDisabled", type := .boolean, accessFlags := 4120, slot := 9, constantValue := 0 }]
  methods := #[k21m0, k21m1, k21m2]
  instanceTypes := #[]
  staticTypes := #[.double, .double, .double, .double, .double, .long, .long, .double, .double, .boolean]
  resolved := Array.replicate 460 none
  statics := none }

def pool22 : Array CpInfo := pool [(2, .class_ 4), (1, u "java/lang/Object"), (0, u "<init>"), (0, u "()V"), (1, .class_ 10), (1, u "java/lang/System"), (0, u "allowSecurityManager"), (0, u "I"), (16, u "cons"), (0, u "Ljava/io/Console;"), (77, .class_ 110), (1, u "java/lang/System$CallersHolder"), (43, u "initialErrStream"), (0, u "Ljava/io/PrintStream;"), (19, u "security"), (0, u "Ljava/lang/SecurityManager;"), (31, .class_ 209), (0, u "java/lang/System$1"), (7, u "props"), (0, u "Ljava/util/Properties;"), (2, u "lineSeparator"), (0, u "Ljava/lang/String;"), (96, .class_ 321), (1, u "java/lang/System$LoggerFinder"), (5, .class_ 328), (0, u "java/lang/System$Logger"), (67, u "err"), (2, u "out"), (91, u "notSupportedJnuEncoding"), (15, u "in"), (17, u "initialIn"), (0, u "Ljava/io/InputStream;"), (35, u "bootLayer"), (0, u "Ljava/lang/ModuleLayer;"), (99, .class_ 664), (0, u "java/lang/System$2"), (9, u "NEVER"), (2, u "MAYBE"), (49, u "arraycopy"), (0, u "(Ljava/lang/Object;ILjava/lang/Object;II)V"), (72, .class_ 802), (0, u "java/lang/System$Logger$Level")] 31

def k22m0 : Method := { name := "<init>", desc := "()V", sig := { parameters := [], returnType := none }, accessFlags := 2, code := none }
def k22m1 : Method := { name := "arraycopy", desc := "(Ljava/lang/Object;ILjava/lang/Object;II)V", sig := { parameters := [(.object "java/lang/Object"), .int, (.object "java/lang/Object"), .int, .int], returnType := none }, accessFlags := 265, code := none }
/-- java/lang/System -/
def k22 : Class := { plain "java/lang/System" (some 0) with
  accessFlags := 49
  interfaces := #[]
  cf := some (fileOf pool22 8 #[.nestMembers #[319, 327, 801, 108, 663, 208]] #[{ accessFlags := 2, nameIndex := 5, descriptorIndex := 6, attributes := #[] }, { accessFlags := 265, nameIndex := 727, descriptorIndex := 728, attributes := #[] }] 49 2 #[] #[{ accessFlags := 25, nameIndex := 507, descriptorIndex := 526, attributes := #[] }, { accessFlags := 25, nameIndex := 399, descriptorIndex := 155, attributes := #[] }, { accessFlags := 25, nameIndex := 396, descriptorIndex := 155, attributes := #[] }, { accessFlags := 10, nameIndex := 525, descriptorIndex := 526, attributes := #[] }, { accessFlags := 26, nameIndex := 674, descriptorIndex := 12, attributes := #[] }, { accessFlags := 26, nameIndex := 677, descriptorIndex := 12, attributes := #[] }, { accessFlags := 10, nameIndex := 11, descriptorIndex := 12, attributes := #[] }, { accessFlags := 74, nameIndex := 175, descriptorIndex := 176, attributes := #[] }, { accessFlags := 10, nameIndex := 491, descriptorIndex := 222, attributes := #[] }, { accessFlags := 74, nameIndex := 29, descriptorIndex := 30, attributes := #[] }, { accessFlags := 74, nameIndex := 154, descriptorIndex := 155, attributes := #[] }, { accessFlags := 10, nameIndex := 217, descriptorIndex := 218, attributes := #[] }, { accessFlags := 10, nameIndex := 221, descriptorIndex := 222, attributes := #[] }, { accessFlags := 8, nameIndex := 562, descriptorIndex := 563, attributes := #[] }])
  fields := #[{ name := "in", type := (.object "java/io/InputStream"), accessFlags := 25, slot := 0, constantValue := 0 }, { name := "out", type := (.object "java/io/PrintStream"), accessFlags := 25, slot := 1, constantValue := 0 }, { name := "err", type := (.object "java/io/PrintStream"), accessFlags := 25, slot := 2, constantValue := 0 }, { name := "initialIn", type := (.object "java/io/InputStream"), accessFlags := 10, slot := 3, constantValue := 0 }, { name := "NEVER", type := .int, accessFlags := 26, slot := 4, constantValue := 0 }, { name := "MAYBE", type := .int, accessFlags := 26, slot := 5, constantValue := 0 }, { name := "allowSecurityManager", type := .int, accessFlags := 10, slot := 6, constantValue := 0 }, { name := "security", type := (.object "java/lang/SecurityManager"), accessFlags := 74, slot := 7, constantValue := 0 }, { name := "notSupportedJnuEncoding", type := (.object "java/lang/String"), accessFlags := 10, slot := 8, constantValue := 0 }, { name := "cons", type := (.object "java/io/Console"), accessFlags := 74, slot := 9, constantValue := 0 }, { name := "initialErrStream", type := (.object "java/io/PrintStream"), accessFlags := 74, slot := 10, constantValue := 0 }, { name := "props", type := (.object "java/util/Properties"), accessFlags := 10, slot := 11, constantValue := 0 }, { name := "lineSeparator", type := (.object "java/lang/String"), accessFlags := 10, slot := 12, constantValue := 0 }, { name := "bootLayer", type := (.object "java/lang/ModuleLayer"), accessFlags := 8, slot := 13, constantValue := 0 }]
  methods := #[k22m0, k22m1]
  instanceTypes := #[]
  staticTypes := #[(.object "java/io/InputStream"), (.object "java/io/PrintStream"), (.object "java/io/PrintStream"), (.object "java/io/InputStream"), .int, .int, .int, (.object "java/lang/SecurityManager"), (.object "java/lang/String"), (.object "java/io/Console"), (.object "java/io/PrintStream"), (.object "java/util/Properties"), (.object "java/lang/String"), (.object "java/lang/ModuleLayer")]
  resolved := Array.replicate 834 none
  statics := none }

def pool23 : Array CpInfo := pool [(2, .class_ 4), (1, u "java/lang/Object"), (0, u "<init>"), (0, u "()V"), (7, .class_ 16), (1, u "java/util/Arrays"), (57, .class_ 76), (1, u "java/util/Arrays$NaturalOrder"), (32, u "()Ljava/lang/Object;"), (3, .class_ 115), (1, u "java/util/Arrays$LegacyMergeSort"), (1, u "Z"), (10, .nameAndType 129 109), (0, u "clone"), (9, u "copyOfRange"), (10, .methodref 151 152), (0, .class_ 153), (0, .nameAndType 154 155), (0, u "java/lang/System"), (0, u "arraycopy"), (0, u "(Ljava/lang/Object;ILjava/lang/Object;II)V"), (146, u "copyOf"), (1, .methodref 305 306), (0, .class_ 307), (0, .nameAndType 308 309), (0, u "java/lang/Math"), (0, u "min"), (0, u "(II)I"), (0, .methodref 311 128), (0, .class_ 312), (0, u "[B"), (26, .methodref 14 340), (0, .nameAndType 341 342), (0, u "copyOfRangeByte"), (0, u "([BII)[B"), (0, .methodref 14 344), (0, .nameAndType 345 346), (0, u "checkLength"), (0, u "(II)V"), (28, .class_ 376), (0, u "java/util/Arrays$ArrayList"), (68, u "$assertionsDisabled"), (269, u "MIN_ARRAY_SORT_GRAN"), (0, u "I"), (2, u "INSERTIONSORT_THRESHOLD"), (151, u "([II)[I"), (103, .class_ 976), (0, u "java/util/Arrays$ArrayItr")] 52

def k23m0 : Method := { name := "<init>", desc := "()V", sig := { parameters := [], returnType := none }, accessFlags := 2, code := none }
def k23c1 : Code := { maxStack := 6, maxLocals := 3, code := jdk_65_method_123_code, exceptionTable := #[], attributes := #[] }
def k23m1 : Method := { name := "copyOf", desc := "([II)[I", sig := { parameters := [(.array .int), .int], returnType := some (.array .int) }, accessFlags := 9, code := some k23c1 }
def k23c2 : Code := { maxStack := 4, maxLocals := 2, code := jdk_65_method_131_code, exceptionTable := #[], attributes := #[] }
def k23m2 : Method := { name := "checkLength", desc := "(II)V", sig := { parameters := [.int, .int], returnType := none }, accessFlags := 10, code := some k23c2 }
def k23c3 : Code := { maxStack := 3, maxLocals := 3, code := jdk_65_method_132_code, exceptionTable := #[], attributes := #[] }
def k23m3 : Method := { name := "copyOfRange", desc := "([BII)[B", sig := { parameters := [(.array .byte), .int, .int], returnType := some (.array .byte) }, accessFlags := 9, code := some k23c3 }
def k23c4 : Code := { maxStack := 6, maxLocals := 5, code := jdk_65_method_133_code, exceptionTable := #[], attributes := #[] }
def k23m4 : Method := { name := "copyOfRangeByte", desc := "([BII)[B", sig := { parameters := [(.array .byte), .int, .int], returnType := some (.array .byte) }, accessFlags := 10, code := some k23c4 }
/-- java/util/Arrays -/
def k23 : Class := { plain "java/util/Arrays" (some 0) with
  accessFlags := 49
  interfaces := #[]
  cf := some (fileOf pool23 14 #[.nestMembers #[975, 375, 113, 74]] #[{ accessFlags := 2, nameIndex := 5, descriptorIndex := 6, attributes := #[] }, { accessFlags := 9, nameIndex := 302, descriptorIndex := 871, attributes := #[] }, { accessFlags := 10, nameIndex := 345, descriptorIndex := 346, attributes := #[] }, { accessFlags := 9, nameIndex := 139, descriptorIndex := 342, attributes := #[] }, { accessFlags := 10, nameIndex := 341, descriptorIndex := 342, attributes := #[] }] 49 2 #[] #[{ accessFlags := 26, nameIndex := 715, descriptorIndex := 716, attributes := #[] }, { accessFlags := 26, nameIndex := 719, descriptorIndex := 716, attributes := #[] }, { accessFlags := 4120, nameIndex := 445, descriptorIndex := 117, attributes := #[] }])
  fields := #[{ name := "MIN_ARRAY_SORT_GRAN", type := .int, accessFlags := 26, slot := 0, constantValue := 0 }, { name := "INSERTIONSORT_THRESHOLD", type := .int, accessFlags := 26, slot := 1, constantValue := 0 }, { name := "$assertionsDisabled", type := .boolean, accessFlags := 4120, slot := 2, constantValue := 0 }]
  methods := #[k23m0, k23m1, k23m2, k23m3, k23m4]
  instanceTypes := #[]
  staticTypes := #[.int, .int, .boolean]
  resolved := Array.replicate 1029 none
  statics := none }

def pool24 : Array CpInfo := pool [(2, .class_ 4), (1, u "java/lang/Object"), (0, u "<init>"), (0, u "()V"), (17, .class_ 26), (1, u "jdk/internal/util/Preconditions"), (20, u "checkFromToIndex"), (7, .class_ 56), (0, u "jdk/internal/util/Preconditions$4"), (57, .class_ 115), (0, u "jdk/internal/util/Preconditions$1"), (7, u "SIOOBE_FORMATTER"), (0, u "Ljava/util/function/BiFunction;"), (0, .class_ 126), (0, u "jdk/internal/util/Preconditions$2"), (3, u "AIOOBE_FORMATTER"), (0, .class_ 132), (0, u "jdk/internal/util/Preconditions$3"), (3, u "IOOBE_FORMATTER"), (46, u "(IIILjava/util/function/BiFunction;)I")] 10

def k24m0 : Method := { name := "<init>", desc := "()V", sig := { parameters := [], returnType := none }, accessFlags := 1, code := none }
def k24c1 : Code := { maxStack := 4, maxLocals := 4, code := jdk_41_method_12_code, exceptionTable := #[], attributes := #[] }
def k24m1 : Method := { name := "checkFromToIndex", desc := "(IIILjava/util/function/BiFunction;)I", sig := { parameters := [.int, .int, .int, (.object "java/util/function/BiFunction")], returnType := some .int }, accessFlags := 9, code := some k24c1 }
/-- jdk/internal/util/Preconditions -/
def k24 : Class := { plain "jdk/internal/util/Preconditions" (some 0) with
  accessFlags := 33
  interfaces := #[]
  cf := some (fileOf pool24 24 #[.nestMembers #[55, 131, 125, 114]] #[{ accessFlags := 1, nameIndex := 5, descriptorIndex := 6, attributes := #[] }, { accessFlags := 9, nameIndex := 47, descriptorIndex := 183, attributes := #[] }] 33 2 #[] #[{ accessFlags := 25, nameIndex := 123, descriptorIndex := 124, attributes := #[] }, { accessFlags := 25, nameIndex := 130, descriptorIndex := 124, attributes := #[] }, { accessFlags := 25, nameIndex := 136, descriptorIndex := 124, attributes := #[] }])
  fields := #[{ name := "SIOOBE_FORMATTER", type := (.object "java/util/function/BiFunction"), accessFlags := 25, slot := 0, constantValue := 0 }, { name := "AIOOBE_FORMATTER", type := (.object "java/util/function/BiFunction"), accessFlags := 25, slot := 1, constantValue := 0 }, { name := "IOOBE_FORMATTER", type := (.object "java/util/function/BiFunction"), accessFlags := 25, slot := 2, constantValue := 0 }]
  methods := #[k24m0, k24m1]
  instanceTypes := #[]
  staticTypes := #[(.object "java/util/function/BiFunction"), (.object "java/util/function/BiFunction"), (.object "java/util/function/BiFunction")]
  resolved := Array.replicate 194 none
  statics := some 3 }

def pool25 : Array CpInfo := pool [(1, .class_ 2), (0, u "java/lang/String"), (1, .class_ 6), (1, u "java/lang/Object"), (0, u "<init>"), (0, u "()V"), (5, .class_ 16), (1, u "java/lang/StringLatin1"), (73, u "canEncode"), (14, u "(C)Z"), (6, .methodref 1 113), (0, .nameAndType 7 114), (0, u "([BB)V"), (6, u "$assertionsDisabled"), (0, u "Z"), (8, .class_ 133), (1, u "java/util/Arrays"), (17, .string 152), (0, u ""), (43, u "newString"), (0, u "([BII)Ljava/lang/String;"), (23, .class_ 223), (1, u "java/lang/StringLatin1$LinesSpliterator"), (8, .methodref 131 233), (0, .nameAndType 234 235), (0, u "copyOfRange"), (0, u "([BII)[B"), (45, u "equals"), (0, u "([B[B)Z"), (97, u "toBytes"), (1, u "(C)[B"), (7, .class_ 391), (0, u "java/lang/StringLatin1$CharsSpliterator")] 3

def k25m0 : Method := { name := "<init>", desc := "()V", sig := { parameters := [], returnType := none }, accessFlags := 0, code := none }
def k25c1 : Code := { maxStack := 2, maxLocals := 1, code := jdk_43_method_3_code, exceptionTable := #[], attributes := #[] }
def k25m1 : Method := { name := "canEncode", desc := "(C)Z", sig := { parameters := [.char], returnType := some .boolean }, accessFlags := 9, code := some k25c1 }
def k25c2 : Code := { maxStack := 3, maxLocals := 3, code := jdk_43_method_13_code, exceptionTable := #[], attributes := #[] }
def k25m2 : Method := { name := "equals", desc := "([B[B)Z", sig := { parameters := [(.array .byte), (.array .byte)], returnType := some .boolean }, accessFlags := 9, code := some k25c2 }
def k25c3 : Code := { maxStack := 4, maxLocals := 1, code := jdk_43_method_46_code, exceptionTable := #[], attributes := #[] }
def k25m3 : Method := { name := "toBytes", desc := "(C)[B", sig := { parameters := [.char], returnType := some (.array .byte) }, accessFlags := 9, code := some k25c3 }
def k25c4 : Code := { maxStack := 6, maxLocals := 3, code := jdk_43_method_47_code, exceptionTable := #[], attributes := #[] }
def k25m4 : Method := { name := "newString", desc := "([BII)Ljava/lang/String;", sig := { parameters := [(.array .byte), .int, .int], returnType := some (.object "java/lang/String") }, accessFlags := 9, code := some k25c4 }
/-- java/lang/StringLatin1 -/
def k25 : Class := { plain "java/lang/StringLatin1" (some 0) with
  accessFlags := 48
  interfaces := #[]
  cf := some (fileOf pool25 14 #[.nestMembers #[390, 221]] #[{ accessFlags := 0, nameIndex := 7, descriptorIndex := 8, attributes := #[] }, { accessFlags := 9, nameIndex := 90, descriptorIndex := 105, attributes := #[] }, { accessFlags := 9, nameIndex := 281, descriptorIndex := 282, attributes := #[] }, { accessFlags := 9, nameIndex := 380, descriptorIndex := 382, attributes := #[] }, { accessFlags := 9, nameIndex := 196, descriptorIndex := 197, attributes := #[] }] 48 4 #[] #[{ accessFlags := 4120, nameIndex := 121, descriptorIndex := 122, attributes := #[] }])
  fields := #[{ name := "$assertionsDisabled", type := .boolean, accessFlags := 4120, slot := 0, constantValue := 0 }]
  methods := #[k25m0, k25m1, k25m2, k25m3, k25m4]
  instanceTypes := #[]
  staticTypes := #[.boolean]
  resolved := Array.replicate 395 none
  statics := none }

def pool26 : Array CpInfo := pool [(1, .class_ 2), (0, u "java/lang/Cloneable"), (0, .class_ 4), (0, u "java/lang/Object")] 2

/-- java/lang/Cloneable -/
def k26 : Class := { plain "java/lang/Cloneable" (some 0) with
  accessFlags := 1537
  interfaces := #[]
  cf := some (fileOf pool26 1 #[] #[] 1537 3 #[] #[])
  fields := #[]
  methods := #[]
  instanceTypes := #[]
  staticTypes := #[]
  resolved := Array.replicate 7 none
  statics := none }

def pool27 : Array CpInfo := pool [(9, u "<init>"), (6, .class_ 18), (1, u "java/lang/Object"), (0, u "()V"), (1, .class_ 23), (1, u "jdk/internal/util/ArraysSupport"), (0, u "LOG2_ARRAY_LONG_INDEX_SCALE"), (0, u "I"), (2, u "U"), (0, u "Ljdk/internal/misc/Unsafe;"), (8, u "BIG_ENDIAN"), (0, u "Z"), (8, u "LOG2_BYTE_BIT_SIZE"), (4, u "LOG2_ARRAY_INT_INDEX_SCALE"), (54, u "JLA"), (0, u "Ljdk/internal/access/JavaLangAccess;"), (11, u "LOG2_ARRAY_BOOLEAN_INDEX_SCALE"), (9, u "LOG2_ARRAY_BYTE_INDEX_SCALE"), (5, u "LOG2_ARRAY_CHAR_INDEX_SCALE"), (5, u "LOG2_ARRAY_SHORT_INDEX_SCALE"), (18, u "LOG2_ARRAY_FLOAT_INDEX_SCALE"), (24, u "LOG2_ARRAY_DOUBLE_INDEX_SCALE"), (89, u "T_BOOLEAN"), (2, u "T_CHAR"), (1, u "T_FLOAT"), (1, u "T_DOUBLE"), (1, u "T_BYTE"), (1, u "T_SHORT"), (1, u "T_INT"), (1, u "T_LONG"), (1, u "SOFT_MAX_ARRAY_LENGTH")] 83

def k27m0 : Method := { name := "<init>", desc := "()V", sig := { parameters := [], returnType := none }, accessFlags := 2, code := none }
/-- jdk/internal/util/ArraysSupport -/
def k27 : Class := { plain "jdk/internal/util/ArraysSupport" (some 0) with
  accessFlags := 33
  interfaces := #[]
  cf := some (fileOf pool27 21 #[] #[{ accessFlags := 2, nameIndex := 9, descriptorIndex := 19, attributes := #[] }] 33 16 #[] #[{ accessFlags := 24, nameIndex := 28, descriptorIndex := 29, attributes := #[] }, { accessFlags := 26, nameIndex := 38, descriptorIndex := 39, attributes := #[] }, { accessFlags := 25, nameIndex := 121, descriptorIndex := 25, attributes := #[] }, { accessFlags := 25, nameIndex := 131, descriptorIndex := 25, attributes := #[] }, { accessFlags := 25, nameIndex := 137, descriptorIndex := 25, attributes := #[] }, { accessFlags := 25, nameIndex := 143, descriptorIndex := 25, attributes := #[] }, { accessFlags := 25, nameIndex := 53, descriptorIndex := 25, attributes := #[] }, { accessFlags := 25, nameIndex := 24, descriptorIndex := 25, attributes := #[] }, { accessFlags := 25, nameIndex := 162, descriptorIndex := 25, attributes := #[] }, { accessFlags := 25, nameIndex := 187, descriptorIndex := 25, attributes := #[] }, { accessFlags := 26, nameIndex := 48, descriptorIndex := 25, attributes := #[] }, { accessFlags := 25, nameIndex := 277, descriptorIndex := 25, attributes := #[] }, { accessFlags := 25, nameIndex := 280, descriptorIndex := 25, attributes := #[] }, { accessFlags := 25, nameIndex := 282, descriptorIndex := 25, attributes := #[] }, { accessFlags := 25, nameIndex := 284, descriptorIndex := 25, attributes := #[] }, { accessFlags := 25, nameIndex := 286, descriptorIndex := 25, attributes := #[] }, { accessFlags := 25, nameIndex := 288, descriptorIndex := 25, attributes := #[] }, { accessFlags := 25, nameIndex := 290, descriptorIndex := 25, attributes := #[] }, { accessFlags := 25, nameIndex := 292, descriptorIndex := 25, attributes := #[] }, { accessFlags := 26, nameIndex := 108, descriptorIndex := 109, attributes := #[] }, { accessFlags := 25, nameIndex := 294, descriptorIndex := 25, attributes := #[] }])
  fields := #[{ name := "U", type := (.object "jdk/internal/misc/Unsafe"), accessFlags := 24, slot := 0, constantValue := 0 }, { name := "BIG_ENDIAN", type := .boolean, accessFlags := 26, slot := 1, constantValue := 0 }, { name := "LOG2_ARRAY_BOOLEAN_INDEX_SCALE", type := .int, accessFlags := 25, slot := 2, constantValue := 0 }, { name := "LOG2_ARRAY_BYTE_INDEX_SCALE", type := .int, accessFlags := 25, slot := 3, constantValue := 0 }, { name := "LOG2_ARRAY_CHAR_INDEX_SCALE", type := .int, accessFlags := 25, slot := 4, constantValue := 0 }, { name := "LOG2_ARRAY_SHORT_INDEX_SCALE", type := .int, accessFlags := 25, slot := 5, constantValue := 0 }, { name := "LOG2_ARRAY_INT_INDEX_SCALE", type := .int, accessFlags := 25, slot := 6, constantValue := 0 }, { name := "LOG2_ARRAY_LONG_INDEX_SCALE", type := .int, accessFlags := 25, slot := 7, constantValue := 0 }, { name := "LOG2_ARRAY_FLOAT_INDEX_SCALE", type := .int, accessFlags := 25, slot := 8, constantValue := 0 }, { name := "LOG2_ARRAY_DOUBLE_INDEX_SCALE", type := .int, accessFlags := 25, slot := 9, constantValue := 0 }, { name := "LOG2_BYTE_BIT_SIZE", type := .int, accessFlags := 26, slot := 10, constantValue := 0 }, { name := "T_BOOLEAN", type := .int, accessFlags := 25, slot := 11, constantValue := 0 }, { name := "T_CHAR", type := .int, accessFlags := 25, slot := 12, constantValue := 0 }, { name := "T_FLOAT", type := .int, accessFlags := 25, slot := 13, constantValue := 0 }, { name := "T_DOUBLE", type := .int, accessFlags := 25, slot := 14, constantValue := 0 }, { name := "T_BYTE", type := .int, accessFlags := 25, slot := 15, constantValue := 0 }, { name := "T_SHORT", type := .int, accessFlags := 25, slot := 16, constantValue := 0 }, { name := "T_INT", type := .int, accessFlags := 25, slot := 17, constantValue := 0 }, { name := "T_LONG", type := .int, accessFlags := 25, slot := 18, constantValue := 0 }, { name := "JLA", type := (.object "jdk/internal/access/JavaLangAccess"), accessFlags := 26, slot := 19, constantValue := 0 }, { name := "SOFT_MAX_ARRAY_LENGTH", type := .int, accessFlags := 25, slot := 20, constantValue := 0 }]
  methods := #[k27m0]
  instanceTypes := #[]
  staticTypes := #[(.object "jdk/internal/misc/Unsafe"), .boolean, .int, .int, .int, .int, .int, .int, .int, .int, .int, .int, .int, .int, .int, .int, .int, .int, .int, (.object "jdk/internal/access/JavaLangAccess"), .int]
  resolved := Array.replicate 378 none
  statics := none }

/-- the primitive byte -/
def k28 : Class := { plain "byte" none with kind := .primitive 'B', accessFlags := 0x411 }
/-- [B -/
def k29 : Class := { plain "[B" (some 0) with kind := .array 28 .byte, interfaces := #[26, 2], accessFlags := 1041 }

/-- the primitive char -/
def k30 : Class := { plain "char" none with kind := .primitive 'C', accessFlags := 0x411 }
/-- [C -/
def k31 : Class := { plain "[C" (some 0) with kind := .array 30 .char, interfaces := #[26, 2], accessFlags := 1041 }

/-- the primitive int -/
def k32 : Class := { plain "int" none with kind := .primitive 'I', accessFlags := 0x411 }
/-- [I -/
def k33 : Class := { plain "[I" (some 0) with kind := .array 32 .int, interfaces := #[26, 2], accessFlags := 1041 }

def heap : Heap := #[{ cls := 7, slots := #[.long 0, .int 1, .null, .int 0, .null, .int 0, .int 0], vm := .statics 7 },
  { cls := 8, slots := #[.ref 4], vm := .statics 8 },
  { cls := 16, slots := #[.ref 5], vm := .statics 16 },
  { cls := 24, slots := #[.null, .null, .null], vm := .statics 24 },
  { cls := 33, slots := #[.int 0], vm := .none },
  { cls := 16, slots := #[.int 0, .null, .null, .int 0, .int 0], vm := .none }]
def classes : Array Class := #[k0, k1, k2, k3, k4, k5, k6, k7, k8, k9, k10, k11, k12, k13, k14, k15, k16, k17, k18, k19, k20, k21, k22, k23, k24, k25, k26, k27, k28, k29, k30, k31, k32, k33]
def interned : List (Array UInt16 × Addr) := []
def slotsUsed : Nat := 18
def theMethod : MethodId := ⟨1, 1⟩
def args0 : Array Value := #[.int 5, .int 6, .int 7, .int 8, .int 9, .int 10]
def aboutOver (below : List Frame) : State where
  vm := { classes := classes, interned := interned.toArray }
  heap := heap
  slotsUsed := slotsUsed
  threads := #[{ frames := .invoking theMethod args0 :: below }]
def below0 : List Frame := [.native { method := ⟨0, 0⟩, args := #[] }]
def about1 : State := aboutOver below0
def p0 : Program := .bare "" "" ""
def e0 : Env := launch0.env 0 0 0
theorem w_frames : about1.frames = Frame.invoking theMethod args0 :: below0 := rfl
set_option maxRecDepth 65536 in
theorem w_args : argsFit about1.vm theMethod args0 = true := by decide +kernel
set_option maxRecDepth 65536 in
theorem w_heap : heapFits about1 = true := by decide +kernel
set_option maxRecDepth 65536 in
theorem w_runnable : about1.curStatus? = some .runnable := by decide +kernel
set_option maxRecDepth 65536 in
theorem w_alone : about1.alone = true := by decide +kernel
set_option maxRecDepth 65536 in
theorem w_named : about1.methodNamed? x = some theMethod := by decide +kernel
set_option maxRecDepth 65536 in
theorem w_hears : about1.hears theMethod below0 = true := by decide +kernel
set_option maxRecDepth 65536 in
theorem w_ripe : about1.ripe theMethod args0 below0 = true := by decide +kernel
theorem w_running : about1.status = .running := rfl
set_option maxRecDepth 65536 in
theorem w_room : about1.hasRoom e0.platform room_1 = true :=
  launch0.hasRoom_least _ room_1 (by decide +kernel) (by decide +kernel) (by decide +kernel) (by decide +kernel) (by decide +kernel) (by decide +kernel)
theorem allAtoms_all (ts : List Jvm.Cond) (a : Array Jvm.Value) (st : Jvm.State) : (allAtoms ts).before a st = ts.all (fun c => c.before a st) := by
  induction ts with
  | nil => rfl
  | cons c t ih =>
    show (Jvm.Cond.and c (allAtoms t)).before a st = _
    rw [Jvm.Cond.before_and, ih, List.all_cons]
def words1 : List Jvm.Cond := Jvm.Cond.code x code maxLocals ret :: tables_1
/-- a 'code' word, met by the world's own term for the bytes: nothing is compared byte by byte -/
theorem code_word {y : MethodName} {bytes : ByteArray} {mx : Nat} {rt : Option FieldType} {a : Array Value} {s : State} {m : MethodId} {meth : Method} {c : Code} (h1 : s.methodNamed? y = some m) (h2 : s.vm.method? m = some meth) (h3 : meth.code = some c) (h4 : c.code = bytes)
    (h5 : (c.maxLocals == mx && c.exceptionTable.isEmpty && decide (c.maxStack ≤ mostOperands) && decide (meth.sig.returnType = rt) && !meth.locks && decide (parseMethodDescriptor y.desc = some meth.sig)) = true) : (Jvm.Cond.code y bytes mx rt).before a s = true := by
  simp only [Bool.and_eq_true, beq_iff_eq, Bool.not_eq_true', decide_eq_true_eq] at h5
  obtain ⟨⟨⟨⟨⟨g1, g2⟩, g3⟩, g4⟩, g5⟩, g6⟩ := h5
  simp [Cond.before, Cond.holds, Cond.value, h1, h2, h3, h4, g1, g2, g3, g4, g5, g6]
def isCode : Jvm.Cond → Bool
  | .code _ _ _ _ => true
  | _ => false
theorem all_split {L : List Jvm.Cond} {P : Jvm.Cond → Bool} (h1 : L.all (fun c => isCode c || P c) = true) (h2 : ∀ c ∈ L.filter isCode, P c = true) : L.all P = true := by
  refine List.all_eq_true.mpr fun c hc => ?_
  have h := List.all_eq_true.mp h1 c hc
  rcases Bool.eq_false_or_eq_true (isCode c) with hi | hi
  · exact h2 c (List.mem_filter.mpr ⟨hc, hi⟩)
  · simpa [hi] using h
set_option maxRecDepth 65536 in
theorem w_c0 : (Jvm.Cond.code x code maxLocals ret).before args0 about1 = true := code_word (m := ⟨1, 1⟩) (meth := k1m1) (c := k1c1) (by decide +kernel) rfl rfl rfl (by decide +kernel)
set_option maxRecDepth 65536 in
theorem w_c1 : (Jvm.Cond.code ({ cls := "com/example/amendatory/amendatory/BuilderClearPinLaw", name := "para", desc := "(II)Ljava/lang/String;" } : Jvm.MethodName) method_4_code (5 : Nat) (Option.some (Jvm.ClassFile.FieldType.object "java/lang/String"))).before args0 about1 = true := code_word (m := ⟨1, 3⟩) (meth := k1m3) (c := k1c3) (by decide +kernel) rfl rfl rfl (by decide +kernel)
set_option maxRecDepth 65536 in
theorem w_c2 : (Jvm.Cond.code ({ cls := "com/example/amendatory/amendatory/Paragraphs$Builder", name := "<init>", desc := "(I)V" } : Jvm.MethodName) prog_44_method_2_code (2 : Nat) (Option.none : Option Jvm.ClassFile.FieldType)).before args0 about1 = true := code_word (m := ⟨8, 1⟩) (meth := k8m1) (c := k8c1) (by decide +kernel) rfl rfl rfl (by decide +kernel)
set_option maxRecDepth 65536 in
theorem w_c3 : (Jvm.Cond.code ({ cls := "java/lang/Object", name := "<init>", desc := "()V" } : Jvm.MethodName) object_method_1_code (1 : Nat) (Option.none : Option Jvm.ClassFile.FieldType)).before args0 about1 = true := code_word (m := ⟨0, 0⟩) (meth := k0m0) (c := k0c0) (by decide +kernel) rfl rfl rfl (by decide +kernel)
set_option maxRecDepth 65536 in
theorem w_c4 : (Jvm.Cond.code ({ cls := "com/example/amendatory/amendatory/Paragraphs$Builder", name := "build", desc := "()Lcom/example/amendatory/amendatory/Paragraphs;" } : Jvm.MethodName) prog_44_method_11_code (1 : Nat) (Option.some (Jvm.ClassFile.FieldType.object "com/example/amendatory/amendatory/Paragraphs"))).before args0 about1 = true := code_word (m := ⟨8, 6⟩) (meth := k8m6) (c := k8c6) (by decide +kernel) rfl rfl rfl (by decide +kernel)
set_option maxRecDepth 65536 in
theorem w_c5 : (Jvm.Cond.code ({ cls := "com/example/amendatory/amendatory/Paragraphs$Builder", name := "clear", desc := "()V" } : Jvm.MethodName) prog_44_method_5_code (1 : Nat) (Option.none : Option Jvm.ClassFile.FieldType)).before args0 about1 = true := code_word (m := ⟨8, 4⟩) (meth := k8m4) (c := k8c4) (by decide +kernel) rfl rfl rfl (by decide +kernel)
set_option maxRecDepth 65536 in
theorem w_c6 : (Jvm.Cond.code ({ cls := "com/example/amendatory/amendatory/BuilderClearPinLaw", name := "holds", desc := "(Lcom/example/amendatory/amendatory/Paragraphs;ILjava/lang/String;Ljava/lang/String;)Z" } : Jvm.MethodName) method_3_code (4 : Nat) (Option.some Jvm.ClassFile.FieldType.boolean)).before args0 about1 = true := code_word (m := ⟨1, 2⟩) (meth := k1m2) (c := k1c2) (by decide +kernel) rfl rfl rfl (by decide +kernel)
set_option maxRecDepth 65536 in
theorem w_c7 : (Jvm.Cond.code ({ cls := "com/example/amendatory/amendatory/Paragraphs", name := "size", desc := "()I" } : Jvm.MethodName) prog_43_method_4_code (1 : Nat) (Option.some Jvm.ClassFile.FieldType.int)).before args0 about1 = true := code_word (m := ⟨16, 2⟩) (meth := k16m2) (c := k16c2) (by decide +kernel) rfl rfl rfl (by decide +kernel)
set_option maxRecDepth 65536 in
theorem w_c8 : (Jvm.Cond.code ({ cls := "java/lang/String", name := "<init>", desc := "([C)V" } : Jvm.MethodName) jdk_42_method_3_code (2 : Nat) (Option.none : Option Jvm.ClassFile.FieldType)).before args0 about1 = true := code_word (m := ⟨7, 1⟩) (meth := k7m1) (c := k7c1) (by decide +kernel) rfl rfl rfl (by decide +kernel)
set_option maxRecDepth 65536 in
theorem w_c9 : (Jvm.Cond.code ({ cls := "java/lang/String", name := "<init>", desc := "([CIILjava/lang/Void;)V" } : Jvm.MethodName) jdk_42_method_149_code (6 : Nat) (Option.none : Option Jvm.ClassFile.FieldType)).before args0 about1 = true := code_word (m := ⟨7, 8⟩) (meth := k7m8) (c := k7c8) (by decide +kernel) rfl rfl rfl (by decide +kernel)
set_option maxRecDepth 65536 in
theorem w_c10 : (Jvm.Cond.code ({ cls := "java/lang/StringUTF16", name := "compress", desc := "([CII)[B" } : Jvm.MethodName) jdk_52_method_16_code (6 : Nat) (Option.some (Jvm.ClassFile.FieldType.array Jvm.ClassFile.FieldType.byte))).before args0 about1 = true := code_word (m := ⟨17, 2⟩) (meth := k17m2) (c := k17c2) (by decide +kernel) rfl rfl rfl (by decide +kernel)
set_option maxRecDepth 65536 in
theorem w_c11 : (Jvm.Cond.code ({ cls := "java/lang/StringUTF16", name := "compress", desc := "([CI[BII)I" } : Jvm.MethodName) jdk_52_method_21_code (7 : Nat) (Option.some Jvm.ClassFile.FieldType.int)).before args0 about1 = true := code_word (m := ⟨17, 3⟩) (meth := k17m3) (c := k17c3) (by decide +kernel) rfl rfl rfl (by decide +kernel)
set_option maxRecDepth 65536 in
theorem w_c12 : (Jvm.Cond.code ({ cls := "java/lang/StringUTF16", name := "coderFromArrayLen", desc := "([BI)B" } : Jvm.MethodName) jdk_52_method_15_code (2 : Nat) (Option.some Jvm.ClassFile.FieldType.byte)).before args0 about1 = true := code_word (m := ⟨17, 1⟩) (meth := k17m1) (c := k17c1) (by decide +kernel) rfl rfl rfl (by decide +kernel)
set_option maxRecDepth 65536 in
theorem w_c13 : (Jvm.Cond.code ({ cls := "com/example/amendatory/amendatory/Paragraphs$Builder", name := "add", desc := "(Ljava/lang/CharSequence;)Lcom/example/amendatory/amendatory/Paragraphs$Builder;" } : Jvm.MethodName) prog_44_method_3_code (2 : Nat) (Option.some (Jvm.ClassFile.FieldType.object "com/example/amendatory/amendatory/Paragraphs$Builder"))).before args0 about1 = true := code_word (m := ⟨8, 2⟩) (meth := k8m2) (c := k8c2) (by decide +kernel) rfl rfl rfl (by decide +kernel)
set_option maxRecDepth 65536 in
theorem w_c14 : (Jvm.Cond.code ({ cls := "java/lang/String", name := "length", desc := "()I" } : Jvm.MethodName) jdk_42_method_54_code (1 : Nat) (Option.some Jvm.ClassFile.FieldType.int)).before args0 about1 = true := code_word (m := ⟨7, 3⟩) (meth := k7m3) (c := k7c3) (by decide +kernel) rfl rfl rfl (by decide +kernel)
set_option maxRecDepth 65536 in
theorem w_c15 : (Jvm.Cond.code ({ cls := "java/lang/String", name := "coder", desc := "()B" } : Jvm.MethodName) jdk_42_method_152_code (1 : Nat) (Option.some Jvm.ClassFile.FieldType.byte)).before args0 about1 = true := code_word (m := ⟨7, 11⟩) (meth := k7m11) (c := k7c11) (by decide +kernel) rfl rfl rfl (by decide +kernel)
set_option maxRecDepth 65536 in
theorem w_c16 : (Jvm.Cond.code ({ cls := "com/example/amendatory/amendatory/Paragraphs$Builder", name := "add", desc := "(Ljava/lang/CharSequence;II)Lcom/example/amendatory/amendatory/Paragraphs$Builder;" } : Jvm.MethodName) prog_44_method_4_code (4 : Nat) (Option.some (Jvm.ClassFile.FieldType.object "com/example/amendatory/amendatory/Paragraphs$Builder"))).before args0 about1 = true := code_word (m := ⟨8, 3⟩) (meth := k8m3) (c := k8c3) (by decide +kernel) rfl rfl rfl (by decide +kernel)
set_option maxRecDepth 65536 in
theorem w_c17 : (Jvm.Cond.code ({ cls := "com/example/amendatory/amendatory/Paragraphs$Builder", name := "makeRoom", desc := "(I)V" } : Jvm.MethodName) prog_44_method_9_code (4 : Nat) (Option.none : Option Jvm.ClassFile.FieldType)).before args0 about1 = true := code_word (m := ⟨8, 5⟩) (meth := k8m5) (c := k8c5) (by decide +kernel) rfl rfl rfl (by decide +kernel)
set_option maxRecDepth 65536 in
theorem w_c18 : (Jvm.Cond.code ({ cls := "java/lang/Math", name := "max", desc := "(II)I" } : Jvm.MethodName) jdk_29_method_65_code (2 : Nat) (Option.some Jvm.ClassFile.FieldType.int)).before args0 about1 = true := code_word (m := ⟨21, 1⟩) (meth := k21m1) (c := k21c1) (by decide +kernel) rfl rfl rfl (by decide +kernel)
set_option maxRecDepth 65536 in
theorem w_c19 : (Jvm.Cond.code ({ cls := "java/lang/StringBuilder", name := "<init>", desc := "(I)V" } : Jvm.MethodName) jdk_67_method_2_code (2 : Nat) (Option.none : Option Jvm.ClassFile.FieldType)).before args0 about1 = true := code_word (m := ⟨20, 1⟩) (meth := k20m1) (c := k20c1) (by decide +kernel) rfl rfl rfl (by decide +kernel)
set_option maxRecDepth 65536 in
theorem w_c20 : (Jvm.Cond.code ({ cls := "java/lang/AbstractStringBuilder", name := "<init>", desc := "(I)V" } : Jvm.MethodName) jdk_68_method_2_code (2 : Nat) (Option.none : Option Jvm.ClassFile.FieldType)).before args0 about1 = true := code_word (m := ⟨19, 1⟩) (meth := k19m1) (c := k19c1) (by decide +kernel) rfl rfl rfl (by decide +kernel)
set_option maxRecDepth 65536 in
theorem w_c21 : (Jvm.Cond.code ({ cls := "java/lang/StringBuilder", name := "length", desc := "()I" } : Jvm.MethodName) jdk_67_method_93_code (1 : Nat) (Option.some Jvm.ClassFile.FieldType.int)).before args0 about1 = true := code_word (m := ⟨20, 7⟩) (meth := k20m7) (c := k20c7) (by decide +kernel) rfl rfl rfl (by decide +kernel)
set_option maxRecDepth 65536 in
theorem w_c22 : (Jvm.Cond.code ({ cls := "java/lang/AbstractStringBuilder", name := "length", desc := "()I" } : Jvm.MethodName) jdk_68_method_6_code (1 : Nat) (Option.some Jvm.ClassFile.FieldType.int)).before args0 about1 = true := code_word (m := ⟨19, 2⟩) (meth := k19m2) (c := k19c2) (by decide +kernel) rfl rfl rfl (by decide +kernel)
set_option maxRecDepth 65536 in
theorem w_c23 : (Jvm.Cond.code ({ cls := "java/lang/StringBuilder", name := "capacity", desc := "()I" } : Jvm.MethodName) jdk_67_method_92_code (1 : Nat) (Option.some Jvm.ClassFile.FieldType.int)).before args0 about1 = true := code_word (m := ⟨20, 6⟩) (meth := k20m6) (c := k20c6) (by decide +kernel) rfl rfl rfl (by decide +kernel)
set_option maxRecDepth 65536 in
theorem w_c24 : (Jvm.Cond.code ({ cls := "java/lang/AbstractStringBuilder", name := "capacity", desc := "()I" } : Jvm.MethodName) jdk_68_method_7_code (1 : Nat) (Option.some Jvm.ClassFile.FieldType.int)).before args0 about1 = true := code_word (m := ⟨19, 3⟩) (meth := k19m3) (c := k19c3) (by decide +kernel) rfl rfl rfl (by decide +kernel)
set_option maxRecDepth 65536 in
theorem w_c25 : (Jvm.Cond.code ({ cls := "java/lang/StringBuilder", name := "append", desc := "(Ljava/lang/CharSequence;)Ljava/lang/StringBuilder;" } : Jvm.MethodName) jdk_67_method_9_code (2 : Nat) (Option.some (Jvm.ClassFile.FieldType.object "java/lang/StringBuilder"))).before args0 about1 = true := code_word (m := ⟨20, 3⟩) (meth := k20m3) (c := k20c3) (by decide +kernel) rfl rfl rfl (by decide +kernel)
set_option maxRecDepth 65536 in
theorem w_c26 : (Jvm.Cond.code ({ cls := "java/lang/AbstractStringBuilder", name := "append", desc := "(Ljava/lang/CharSequence;)Ljava/lang/AbstractStringBuilder;" } : Jvm.MethodName) jdk_68_method_25_code (2 : Nat) (Option.some (Jvm.ClassFile.FieldType.object "java/lang/AbstractStringBuilder"))).before args0 about1 = true := code_word (m := ⟨19, 7⟩) (meth := k19m7) (c := k19c7) (by decide +kernel) rfl rfl rfl (by decide +kernel)
set_option maxRecDepth 65536 in
theorem w_c27 : (Jvm.Cond.code ({ cls := "java/lang/StringBuilder", name := "append", desc := "(Ljava/lang/String;)Ljava/lang/AbstractStringBuilder;" } : Jvm.MethodName) jdk_67_method_80_code (2 : Nat) (Option.some (Jvm.ClassFile.FieldType.object "java/lang/AbstractStringBuilder"))).before args0 about1 = true := code_word (m := ⟨20, 5⟩) (meth := k20m5) (c := k20c5) (by decide +kernel) rfl rfl rfl (by decide +kernel)
set_option maxRecDepth 65536 in
theorem w_c28 : (Jvm.Cond.code ({ cls := "java/lang/StringBuilder", name := "append", desc := "(Ljava/lang/String;)Ljava/lang/StringBuilder;" } : Jvm.MethodName) jdk_67_method_7_code (2 : Nat) (Option.some (Jvm.ClassFile.FieldType.object "java/lang/StringBuilder"))).before args0 about1 = true := code_word (m := ⟨20, 2⟩) (meth := k20m2) (c := k20c2) (by decide +kernel) rfl rfl rfl (by decide +kernel)
set_option maxRecDepth 65536 in
theorem w_c29 : (Jvm.Cond.code ({ cls := "java/lang/AbstractStringBuilder", name := "append", desc := "(Ljava/lang/String;)Ljava/lang/AbstractStringBuilder;" } : Jvm.MethodName) jdk_68_method_22_code (3 : Nat) (Option.some (Jvm.ClassFile.FieldType.object "java/lang/AbstractStringBuilder"))).before args0 about1 = true := code_word (m := ⟨19, 5⟩) (meth := k19m5) (c := k19c5) (by decide +kernel) rfl rfl rfl (by decide +kernel)
set_option maxRecDepth 65536 in
theorem w_c30 : (Jvm.Cond.code ({ cls := "java/lang/AbstractStringBuilder", name := "ensureCapacityInternal", desc := "(I)V" } : Jvm.MethodName) jdk_68_method_9_code (3 : Nat) (Option.none : Option Jvm.ClassFile.FieldType)).before args0 about1 = true := code_word (m := ⟨19, 4⟩) (meth := k19m4) (c := k19c4) (by decide +kernel) rfl rfl rfl (by decide +kernel)
set_option maxRecDepth 65536 in
theorem w_c31 : (Jvm.Cond.code ({ cls := "java/lang/AbstractStringBuilder", name := "putStringAt", desc := "(ILjava/lang/String;)V" } : Jvm.MethodName) jdk_68_method_73_code (3 : Nat) (Option.none : Option Jvm.ClassFile.FieldType)).before args0 about1 = true := code_word (m := ⟨19, 14⟩) (meth := k19m14) (c := k19c14) (by decide +kernel) rfl rfl rfl (by decide +kernel)
set_option maxRecDepth 65536 in
theorem w_c32 : (Jvm.Cond.code ({ cls := "java/lang/AbstractStringBuilder", name := "inflateIfNeededFor", desc := "(Ljava/lang/String;)V" } : Jvm.MethodName) jdk_68_method_71_code (2 : Nat) (Option.none : Option Jvm.ClassFile.FieldType)).before args0 about1 = true := code_word (m := ⟨19, 12⟩) (meth := k19m12) (c := k19c12) (by decide +kernel) rfl rfl rfl (by decide +kernel)
set_option maxRecDepth 65536 in
theorem w_c33 : (Jvm.Cond.code ({ cls := "java/lang/String", name := "getBytes", desc := "([BIB)V" } : Jvm.MethodName) jdk_42_method_147_code (4 : Nat) (Option.none : Option Jvm.ClassFile.FieldType)).before args0 about1 = true := code_word (m := ⟨7, 7⟩) (meth := k7m7) (c := k7c7) (by decide +kernel) rfl rfl rfl (by decide +kernel)
set_option maxRecDepth 65536 in
theorem w_c34 : (Jvm.Cond.code ({ cls := "java/util/Arrays", name := "copyOf", desc := "([II)[I" } : Jvm.MethodName) jdk_65_method_123_code (3 : Nat) (Option.some (Jvm.ClassFile.FieldType.array Jvm.ClassFile.FieldType.int))).before args0 about1 = true := code_word (m := ⟨23, 1⟩) (meth := k23m1) (c := k23c1) (by decide +kernel) rfl rfl rfl (by decide +kernel)
set_option maxRecDepth 65536 in
theorem w_c35 : (Jvm.Cond.code ({ cls := "java/lang/Math", name := "min", desc := "(II)I" } : Jvm.MethodName) jdk_29_method_69_code (2 : Nat) (Option.some Jvm.ClassFile.FieldType.int)).before args0 about1 = true := code_word (m := ⟨21, 2⟩) (meth := k21m2) (c := k21c2) (by decide +kernel) rfl rfl rfl (by decide +kernel)
set_option maxRecDepth 65536 in
theorem w_c36 : (Jvm.Cond.code ({ cls := "java/lang/StringBuilder", name := "toString", desc := "()Ljava/lang/String;" } : Jvm.MethodName) jdk_67_method_42_code (1 : Nat) (Option.some (Jvm.ClassFile.FieldType.object "java/lang/String"))).before args0 about1 = true := code_word (m := ⟨20, 4⟩) (meth := k20m4) (c := k20c4) (by decide +kernel) rfl rfl rfl (by decide +kernel)
set_option maxRecDepth 65536 in
theorem w_c37 : (Jvm.Cond.code ({ cls := "java/lang/String", name := "<init>", desc := "(Ljava/lang/StringBuilder;)V" } : Jvm.MethodName) jdk_42_method_53_code (2 : Nat) (Option.none : Option Jvm.ClassFile.FieldType)).before args0 about1 = true := code_word (m := ⟨7, 2⟩) (meth := k7m2) (c := k7c2) (by decide +kernel) rfl rfl rfl (by decide +kernel)
set_option maxRecDepth 65536 in
theorem w_c38 : (Jvm.Cond.code ({ cls := "java/lang/String", name := "<init>", desc := "(Ljava/lang/AbstractStringBuilder;Ljava/lang/Void;)V" } : Jvm.MethodName) jdk_42_method_150_code (5 : Nat) (Option.none : Option Jvm.ClassFile.FieldType)).before args0 about1 = true := code_word (m := ⟨7, 9⟩) (meth := k7m9) (c := k7c9) (by decide +kernel) rfl rfl rfl (by decide +kernel)
set_option maxRecDepth 65536 in
theorem w_c39 : (Jvm.Cond.code ({ cls := "java/lang/AbstractStringBuilder", name := "getValue", desc := "()[B" } : Jvm.MethodName) jdk_68_method_64_code (1 : Nat) (Option.some (Jvm.ClassFile.FieldType.array Jvm.ClassFile.FieldType.byte))).before args0 about1 = true := code_word (m := ⟨19, 8⟩) (meth := k19m8) (c := k19c8) (by decide +kernel) rfl rfl rfl (by decide +kernel)
set_option maxRecDepth 65536 in
theorem w_c40 : (Jvm.Cond.code ({ cls := "java/lang/AbstractStringBuilder", name := "isLatin1", desc := "()Z" } : Jvm.MethodName) jdk_68_method_68_code (1 : Nat) (Option.some Jvm.ClassFile.FieldType.boolean)).before args0 about1 = true := code_word (m := ⟨19, 11⟩) (meth := k19m11) (c := k19c11) (by decide +kernel) rfl rfl rfl (by decide +kernel)
set_option maxRecDepth 65536 in
theorem w_c41 : (Jvm.Cond.code ({ cls := "java/util/Arrays", name := "copyOfRange", desc := "([BII)[B" } : Jvm.MethodName) jdk_65_method_132_code (3 : Nat) (Option.some (Jvm.ClassFile.FieldType.array Jvm.ClassFile.FieldType.byte))).before args0 about1 = true := code_word (m := ⟨23, 3⟩) (meth := k23m3) (c := k23c3) (by decide +kernel) rfl rfl rfl (by decide +kernel)
set_option maxRecDepth 65536 in
theorem w_c42 : (Jvm.Cond.code ({ cls := "java/util/Arrays", name := "copyOfRangeByte", desc := "([BII)[B" } : Jvm.MethodName) jdk_65_method_133_code (5 : Nat) (Option.some (Jvm.ClassFile.FieldType.array Jvm.ClassFile.FieldType.byte))).before args0 about1 = true := code_word (m := ⟨23, 4⟩) (meth := k23m4) (c := k23c4) (by decide +kernel) rfl rfl rfl (by decide +kernel)
set_option maxRecDepth 65536 in
theorem w_c43 : (Jvm.Cond.code ({ cls := "java/util/Arrays", name := "checkLength", desc := "(II)V" } : Jvm.MethodName) jdk_65_method_131_code (2 : Nat) (Option.none : Option Jvm.ClassFile.FieldType)).before args0 about1 = true := code_word (m := ⟨23, 2⟩) (meth := k23m2) (c := k23c2) (by decide +kernel) rfl rfl rfl (by decide +kernel)
set_option maxRecDepth 65536 in
theorem w_c44 : (Jvm.Cond.code ({ cls := "com/example/amendatory/amendatory/Paragraphs", name := "<init>", desc := "(Ljava/lang/String;[III)V" } : Jvm.MethodName) prog_43_method_1_code (5 : Nat) (Option.none : Option Jvm.ClassFile.FieldType)).before args0 about1 = true := code_word (m := ⟨16, 0⟩) (meth := k16m0) (c := k16c0) (by decide +kernel) rfl rfl rfl (by decide +kernel)
set_option maxRecDepth 65536 in
theorem w_c45 : (Jvm.Cond.code ({ cls := "java/util/AbstractList", name := "<init>", desc := "()V" } : Jvm.MethodName) jdk_39_method_1_code (1 : Nat) (Option.none : Option Jvm.ClassFile.FieldType)).before args0 about1 = true := code_word (m := ⟨14, 0⟩) (meth := k14m0) (c := k14c0) (by decide +kernel) rfl rfl rfl (by decide +kernel)
set_option maxRecDepth 65536 in
theorem w_c46 : (Jvm.Cond.code ({ cls := "java/util/AbstractCollection", name := "<init>", desc := "()V" } : Jvm.MethodName) jdk_22_method_1_code (1 : Nat) (Option.none : Option Jvm.ClassFile.FieldType)).before args0 about1 = true := code_word (m := ⟨11, 0⟩) (meth := k11m0) (c := k11c0) (by decide +kernel) rfl rfl rfl (by decide +kernel)
set_option maxRecDepth 65536 in
theorem w_c47 : (Jvm.Cond.code ({ cls := "com/example/amendatory/amendatory/Paragraphs", name := "get", desc := "(I)Ljava/lang/String;" } : Jvm.MethodName) prog_43_method_3_code (2 : Nat) (Option.some (Jvm.ClassFile.FieldType.object "java/lang/String"))).before args0 about1 = true := code_word (m := ⟨16, 1⟩) (meth := k16m1) (c := k16c1) (by decide +kernel) rfl rfl rfl (by decide +kernel)
set_option maxRecDepth 65536 in
theorem w_c48 : (Jvm.Cond.code ({ cls := "java/lang/String", name := "substring", desc := "(II)Ljava/lang/String;" } : Jvm.MethodName) jdk_42_method_92_code (5 : Nat) (Option.some (Jvm.ClassFile.FieldType.object "java/lang/String"))).before args0 about1 = true := code_word (m := ⟨7, 5⟩) (meth := k7m5) (c := k7c5) (by decide +kernel) rfl rfl rfl (by decide +kernel)
set_option maxRecDepth 65536 in
theorem w_c49 : (Jvm.Cond.code ({ cls := "java/lang/String", name := "checkBoundsBeginEnd", desc := "(III)V" } : Jvm.MethodName) jdk_42_method_158_code (3 : Nat) (Option.none : Option Jvm.ClassFile.FieldType)).before args0 about1 = true := code_word (m := ⟨7, 13⟩) (meth := k7m13) (c := k7c13) (by decide +kernel) rfl rfl rfl (by decide +kernel)
set_option maxRecDepth 65536 in
theorem w_c50 : (Jvm.Cond.code ({ cls := "jdk/internal/util/Preconditions", name := "checkFromToIndex", desc := "(IIILjava/util/function/BiFunction;)I" } : Jvm.MethodName) jdk_41_method_12_code (4 : Nat) (Option.some Jvm.ClassFile.FieldType.int)).before args0 about1 = true := code_word (m := ⟨24, 1⟩) (meth := k24m1) (c := k24c1) (by decide +kernel) rfl rfl rfl (by decide +kernel)
set_option maxRecDepth 65536 in
theorem w_c51 : (Jvm.Cond.code ({ cls := "java/lang/String", name := "equals", desc := "(Ljava/lang/Object;)Z" } : Jvm.MethodName) jdk_42_method_66_code (3 : Nat) (Option.some Jvm.ClassFile.FieldType.boolean)).before args0 about1 = true := code_word (m := ⟨7, 4⟩) (meth := k7m4) (c := k7c4) (by decide +kernel) rfl rfl rfl (by decide +kernel)
set_option maxRecDepth 65536 in
theorem w_c52 : (Jvm.Cond.code ({ cls := "java/lang/StringLatin1", name := "equals", desc := "([B[B)Z" } : Jvm.MethodName) jdk_43_method_13_code (3 : Nat) (Option.some Jvm.ClassFile.FieldType.boolean)).before args0 about1 = true := code_word (m := ⟨25, 2⟩) (meth := k25m2) (c := k25c2) (by decide +kernel) rfl rfl rfl (by decide +kernel)
set_option maxRecDepth 65536 in
theorem w_c53 : (Jvm.Cond.code ({ cls := "java/lang/String", name := "isLatin1", desc := "()Z" } : Jvm.MethodName) jdk_42_method_154_code (1 : Nat) (Option.some Jvm.ClassFile.FieldType.boolean)).before args0 about1 = true := code_word (m := ⟨7, 12⟩) (meth := k7m12) (c := k7c12) (by decide +kernel) rfl rfl rfl (by decide +kernel)
set_option maxRecDepth 65536 in
theorem w_c54 : (Jvm.Cond.code ({ cls := "java/lang/StringLatin1", name := "newString", desc := "([BII)Ljava/lang/String;" } : Jvm.MethodName) jdk_43_method_47_code (3 : Nat) (Option.some (Jvm.ClassFile.FieldType.object "java/lang/String"))).before args0 about1 = true := code_word (m := ⟨25, 4⟩) (meth := k25m4) (c := k25c4) (by decide +kernel) rfl rfl rfl (by decide +kernel)
set_option maxRecDepth 65536 in
theorem w_c55 : (Jvm.Cond.code ({ cls := "java/lang/String", name := "valueOf", desc := "(C)Ljava/lang/String;" } : Jvm.MethodName) jdk_42_method_139_code (1 : Nat) (Option.some (Jvm.ClassFile.FieldType.object "java/lang/String"))).before args0 about1 = true := code_word (m := ⟨7, 6⟩) (meth := k7m6) (c := k7c6) (by decide +kernel) rfl rfl rfl (by decide +kernel)
set_option maxRecDepth 65536 in
theorem w_c56 : (Jvm.Cond.code ({ cls := "java/lang/StringLatin1", name := "canEncode", desc := "(C)Z" } : Jvm.MethodName) jdk_43_method_3_code (1 : Nat) (Option.some Jvm.ClassFile.FieldType.boolean)).before args0 about1 = true := code_word (m := ⟨25, 1⟩) (meth := k25m1) (c := k25c1) (by decide +kernel) rfl rfl rfl (by decide +kernel)
set_option maxRecDepth 65536 in
theorem w_c57 : (Jvm.Cond.code ({ cls := "java/lang/StringLatin1", name := "toBytes", desc := "(C)[B" } : Jvm.MethodName) jdk_43_method_46_code (1 : Nat) (Option.some (Jvm.ClassFile.FieldType.array Jvm.ClassFile.FieldType.byte))).before args0 about1 = true := code_word (m := ⟨25, 3⟩) (meth := k25m3) (c := k25c3) (by decide +kernel) rfl rfl rfl (by decide +kernel)
set_option maxRecDepth 65536 in
theorem w_c58 : (Jvm.Cond.code ({ cls := "java/lang/String", name := "<init>", desc := "([BB)V" } : Jvm.MethodName) jdk_42_method_151_code (3 : Nat) (Option.none : Option Jvm.ClassFile.FieldType)).before args0 about1 = true := code_word (m := ⟨7, 10⟩) (meth := k7m10) (c := k7c10) (by decide +kernel) rfl rfl rfl (by decide +kernel)
set_option maxRecDepth 65536 in
theorem w_c59 : (Jvm.Cond.code ({ cls := "java/lang/AbstractStringBuilder", name := "append", desc := "(Ljava/lang/AbstractStringBuilder;)Ljava/lang/AbstractStringBuilder;" } : Jvm.MethodName) jdk_68_method_24_code (3 : Nat) (Option.some (Jvm.ClassFile.FieldType.object "java/lang/AbstractStringBuilder"))).before args0 about1 = true := code_word (m := ⟨19, 6⟩) (meth := k19m6) (c := k19c6) (by decide +kernel) rfl rfl rfl (by decide +kernel)
set_option maxRecDepth 65536 in
theorem w_c60 : (Jvm.Cond.code ({ cls := "java/lang/AbstractStringBuilder", name := "inflateIfNeededFor", desc := "(Ljava/lang/AbstractStringBuilder;)V" } : Jvm.MethodName) jdk_68_method_72_code (2 : Nat) (Option.none : Option Jvm.ClassFile.FieldType)).before args0 about1 = true := code_word (m := ⟨19, 13⟩) (meth := k19m13) (c := k19c13) (by decide +kernel) rfl rfl rfl (by decide +kernel)
set_option maxRecDepth 65536 in
theorem w_c61 : (Jvm.Cond.code ({ cls := "java/lang/AbstractStringBuilder", name := "getCoder", desc := "()B" } : Jvm.MethodName) jdk_68_method_67_code (1 : Nat) (Option.some Jvm.ClassFile.FieldType.byte)).before args0 about1 = true := code_word (m := ⟨19, 10⟩) (meth := k19m10) (c := k19c10) (by decide +kernel) rfl rfl rfl (by decide +kernel)
set_option maxRecDepth 65536 in
theorem w_c62 : (Jvm.Cond.code ({ cls := "java/lang/AbstractStringBuilder", name := "getBytes", desc := "([BIB)V" } : Jvm.MethodName) jdk_68_method_65_code (4 : Nat) (Option.none : Option Jvm.ClassFile.FieldType)).before args0 about1 = true := code_word (m := ⟨19, 9⟩) (meth := k19m9) (c := k19c9) (by decide +kernel) rfl rfl rfl (by decide +kernel)
def codes1 : List Jvm.Cond := [Jvm.Cond.code x code maxLocals ret, Jvm.Cond.code ({ cls := "com/example/amendatory/amendatory/BuilderClearPinLaw", name := "para", desc := "(II)Ljava/lang/String;" } : Jvm.MethodName) method_4_code (5 : Nat) (Option.some (Jvm.ClassFile.FieldType.object "java/lang/String")), Jvm.Cond.code ({ cls := "com/example/amendatory/amendatory/Paragraphs$Builder", name := "<init>", desc := "(I)V" } : Jvm.MethodName) prog_44_method_2_code (2 : Nat) (Option.none : Option Jvm.ClassFile.FieldType), Jvm.Cond.code ({ cls := "java/lang/Object", name := "<init>", desc := "()V" } : Jvm.MethodName) object_method_1_code (1 : Nat) (Option.none : Option Jvm.ClassFile.FieldType), Jvm.Cond.code ({ cls := "com/example/amendatory/amendatory/Paragraphs$Builder", name := "build", desc := "()Lcom/example/amendatory/amendatory/Paragraphs;" } : Jvm.MethodName) prog_44_method_11_code (1 : Nat) (Option.some (Jvm.ClassFile.FieldType.object "com/example/amendatory/amendatory/Paragraphs")), Jvm.Cond.code ({ cls := "com/example/amendatory/amendatory/Paragraphs$Builder", name := "clear", desc := "()V" } : Jvm.MethodName) prog_44_method_5_code (1 : Nat) (Option.none : Option Jvm.ClassFile.FieldType), Jvm.Cond.code ({ cls := "com/example/amendatory/amendatory/BuilderClearPinLaw", name := "holds", desc := "(Lcom/example/amendatory/amendatory/Paragraphs;ILjava/lang/String;Ljava/lang/String;)Z" } : Jvm.MethodName) method_3_code (4 : Nat) (Option.some Jvm.ClassFile.FieldType.boolean), Jvm.Cond.code ({ cls := "com/example/amendatory/amendatory/Paragraphs", name := "size", desc := "()I" } : Jvm.MethodName) prog_43_method_4_code (1 : Nat) (Option.some Jvm.ClassFile.FieldType.int), Jvm.Cond.code ({ cls := "java/lang/String", name := "<init>", desc := "([C)V" } : Jvm.MethodName) jdk_42_method_3_code (2 : Nat) (Option.none : Option Jvm.ClassFile.FieldType), Jvm.Cond.code ({ cls := "java/lang/String", name := "<init>", desc := "([CIILjava/lang/Void;)V" } : Jvm.MethodName) jdk_42_method_149_code (6 : Nat) (Option.none : Option Jvm.ClassFile.FieldType), Jvm.Cond.code ({ cls := "java/lang/StringUTF16", name := "compress", desc := "([CII)[B" } : Jvm.MethodName) jdk_52_method_16_code (6 : Nat) (Option.some (Jvm.ClassFile.FieldType.array Jvm.ClassFile.FieldType.byte)), Jvm.Cond.code ({ cls := "java/lang/StringUTF16", name := "compress", desc := "([CI[BII)I" } : Jvm.MethodName) jdk_52_method_21_code (7 : Nat) (Option.some Jvm.ClassFile.FieldType.int), Jvm.Cond.code ({ cls := "java/lang/StringUTF16", name := "coderFromArrayLen", desc := "([BI)B" } : Jvm.MethodName) jdk_52_method_15_code (2 : Nat) (Option.some Jvm.ClassFile.FieldType.byte), Jvm.Cond.code ({ cls := "com/example/amendatory/amendatory/Paragraphs$Builder", name := "add", desc := "(Ljava/lang/CharSequence;)Lcom/example/amendatory/amendatory/Paragraphs$Builder;" } : Jvm.MethodName) prog_44_method_3_code (2 : Nat) (Option.some (Jvm.ClassFile.FieldType.object "com/example/amendatory/amendatory/Paragraphs$Builder")), Jvm.Cond.code ({ cls := "java/lang/String", name := "length", desc := "()I" } : Jvm.MethodName) jdk_42_method_54_code (1 : Nat) (Option.some Jvm.ClassFile.FieldType.int), Jvm.Cond.code ({ cls := "java/lang/String", name := "coder", desc := "()B" } : Jvm.MethodName) jdk_42_method_152_code (1 : Nat) (Option.some Jvm.ClassFile.FieldType.byte), Jvm.Cond.code ({ cls := "com/example/amendatory/amendatory/Paragraphs$Builder", name := "add", desc := "(Ljava/lang/CharSequence;II)Lcom/example/amendatory/amendatory/Paragraphs$Builder;" } : Jvm.MethodName) prog_44_method_4_code (4 : Nat) (Option.some (Jvm.ClassFile.FieldType.object "com/example/amendatory/amendatory/Paragraphs$Builder")), Jvm.Cond.code ({ cls := "com/example/amendatory/amendatory/Paragraphs$Builder", name := "makeRoom", desc := "(I)V" } : Jvm.MethodName) prog_44_method_9_code (4 : Nat) (Option.none : Option Jvm.ClassFile.FieldType), Jvm.Cond.code ({ cls := "java/lang/Math", name := "max", desc := "(II)I" } : Jvm.MethodName) jdk_29_method_65_code (2 : Nat) (Option.some Jvm.ClassFile.FieldType.int), Jvm.Cond.code ({ cls := "java/lang/StringBuilder", name := "<init>", desc := "(I)V" } : Jvm.MethodName) jdk_67_method_2_code (2 : Nat) (Option.none : Option Jvm.ClassFile.FieldType), Jvm.Cond.code ({ cls := "java/lang/AbstractStringBuilder", name := "<init>", desc := "(I)V" } : Jvm.MethodName) jdk_68_method_2_code (2 : Nat) (Option.none : Option Jvm.ClassFile.FieldType), Jvm.Cond.code ({ cls := "java/lang/StringBuilder", name := "length", desc := "()I" } : Jvm.MethodName) jdk_67_method_93_code (1 : Nat) (Option.some Jvm.ClassFile.FieldType.int), Jvm.Cond.code ({ cls := "java/lang/AbstractStringBuilder", name := "length", desc := "()I" } : Jvm.MethodName) jdk_68_method_6_code (1 : Nat) (Option.some Jvm.ClassFile.FieldType.int), Jvm.Cond.code ({ cls := "java/lang/StringBuilder", name := "capacity", desc := "()I" } : Jvm.MethodName) jdk_67_method_92_code (1 : Nat) (Option.some Jvm.ClassFile.FieldType.int), Jvm.Cond.code ({ cls := "java/lang/AbstractStringBuilder", name := "capacity", desc := "()I" } : Jvm.MethodName) jdk_68_method_7_code (1 : Nat) (Option.some Jvm.ClassFile.FieldType.int), Jvm.Cond.code ({ cls := "java/lang/StringBuilder", name := "append", desc := "(Ljava/lang/CharSequence;)Ljava/lang/StringBuilder;" } : Jvm.MethodName) jdk_67_method_9_code (2 : Nat) (Option.some (Jvm.ClassFile.FieldType.object "java/lang/StringBuilder")), Jvm.Cond.code ({ cls := "java/lang/AbstractStringBuilder", name := "append", desc := "(Ljava/lang/CharSequence;)Ljava/lang/AbstractStringBuilder;" } : Jvm.MethodName) jdk_68_method_25_code (2 : Nat) (Option.some (Jvm.ClassFile.FieldType.object "java/lang/AbstractStringBuilder")), Jvm.Cond.code ({ cls := "java/lang/StringBuilder", name := "append", desc := "(Ljava/lang/String;)Ljava/lang/AbstractStringBuilder;" } : Jvm.MethodName) jdk_67_method_80_code (2 : Nat) (Option.some (Jvm.ClassFile.FieldType.object "java/lang/AbstractStringBuilder")), Jvm.Cond.code ({ cls := "java/lang/StringBuilder", name := "append", desc := "(Ljava/lang/String;)Ljava/lang/StringBuilder;" } : Jvm.MethodName) jdk_67_method_7_code (2 : Nat) (Option.some (Jvm.ClassFile.FieldType.object "java/lang/StringBuilder")), Jvm.Cond.code ({ cls := "java/lang/AbstractStringBuilder", name := "append", desc := "(Ljava/lang/String;)Ljava/lang/AbstractStringBuilder;" } : Jvm.MethodName) jdk_68_method_22_code (3 : Nat) (Option.some (Jvm.ClassFile.FieldType.object "java/lang/AbstractStringBuilder")), Jvm.Cond.code ({ cls := "java/lang/AbstractStringBuilder", name := "ensureCapacityInternal", desc := "(I)V" } : Jvm.MethodName) jdk_68_method_9_code (3 : Nat) (Option.none : Option Jvm.ClassFile.FieldType), Jvm.Cond.code ({ cls := "java/lang/AbstractStringBuilder", name := "putStringAt", desc := "(ILjava/lang/String;)V" } : Jvm.MethodName) jdk_68_method_73_code (3 : Nat) (Option.none : Option Jvm.ClassFile.FieldType), Jvm.Cond.code ({ cls := "java/lang/AbstractStringBuilder", name := "inflateIfNeededFor", desc := "(Ljava/lang/String;)V" } : Jvm.MethodName) jdk_68_method_71_code (2 : Nat) (Option.none : Option Jvm.ClassFile.FieldType), Jvm.Cond.code ({ cls := "java/lang/String", name := "getBytes", desc := "([BIB)V" } : Jvm.MethodName) jdk_42_method_147_code (4 : Nat) (Option.none : Option Jvm.ClassFile.FieldType), Jvm.Cond.code ({ cls := "java/util/Arrays", name := "copyOf", desc := "([II)[I" } : Jvm.MethodName) jdk_65_method_123_code (3 : Nat) (Option.some (Jvm.ClassFile.FieldType.array Jvm.ClassFile.FieldType.int)), Jvm.Cond.code ({ cls := "java/lang/Math", name := "min", desc := "(II)I" } : Jvm.MethodName) jdk_29_method_69_code (2 : Nat) (Option.some Jvm.ClassFile.FieldType.int), Jvm.Cond.code ({ cls := "java/lang/StringBuilder", name := "toString", desc := "()Ljava/lang/String;" } : Jvm.MethodName) jdk_67_method_42_code (1 : Nat) (Option.some (Jvm.ClassFile.FieldType.object "java/lang/String")), Jvm.Cond.code ({ cls := "java/lang/String", name := "<init>", desc := "(Ljava/lang/StringBuilder;)V" } : Jvm.MethodName) jdk_42_method_53_code (2 : Nat) (Option.none : Option Jvm.ClassFile.FieldType), Jvm.Cond.code ({ cls := "java/lang/String", name := "<init>", desc := "(Ljava/lang/AbstractStringBuilder;Ljava/lang/Void;)V" } : Jvm.MethodName) jdk_42_method_150_code (5 : Nat) (Option.none : Option Jvm.ClassFile.FieldType), Jvm.Cond.code ({ cls := "java/lang/AbstractStringBuilder", name := "getValue", desc := "()[B" } : Jvm.MethodName) jdk_68_method_64_code (1 : Nat) (Option.some (Jvm.ClassFile.FieldType.array Jvm.ClassFile.FieldType.byte)), Jvm.Cond.code ({ cls := "java/lang/AbstractStringBuilder", name := "isLatin1", desc := "()Z" } : Jvm.MethodName) jdk_68_method_68_code (1 : Nat) (Option.some Jvm.ClassFile.FieldType.boolean), Jvm.Cond.code ({ cls := "java/util/Arrays", name := "copyOfRange", desc := "([BII)[B" } : Jvm.MethodName) jdk_65_method_132_code (3 : Nat) (Option.some (Jvm.ClassFile.FieldType.array Jvm.ClassFile.FieldType.byte)), Jvm.Cond.code ({ cls := "java/util/Arrays", name := "copyOfRangeByte", desc := "([BII)[B" } : Jvm.MethodName) jdk_65_method_133_code (5 : Nat) (Option.some (Jvm.ClassFile.FieldType.array Jvm.ClassFile.FieldType.byte)), Jvm.Cond.code ({ cls := "java/util/Arrays", name := "checkLength", desc := "(II)V" } : Jvm.MethodName) jdk_65_method_131_code (2 : Nat) (Option.none : Option Jvm.ClassFile.FieldType), Jvm.Cond.code ({ cls := "com/example/amendatory/amendatory/Paragraphs", name := "<init>", desc := "(Ljava/lang/String;[III)V" } : Jvm.MethodName) prog_43_method_1_code (5 : Nat) (Option.none : Option Jvm.ClassFile.FieldType), Jvm.Cond.code ({ cls := "java/util/AbstractList", name := "<init>", desc := "()V" } : Jvm.MethodName) jdk_39_method_1_code (1 : Nat) (Option.none : Option Jvm.ClassFile.FieldType), Jvm.Cond.code ({ cls := "java/util/AbstractCollection", name := "<init>", desc := "()V" } : Jvm.MethodName) jdk_22_method_1_code (1 : Nat) (Option.none : Option Jvm.ClassFile.FieldType), Jvm.Cond.code ({ cls := "com/example/amendatory/amendatory/Paragraphs", name := "get", desc := "(I)Ljava/lang/String;" } : Jvm.MethodName) prog_43_method_3_code (2 : Nat) (Option.some (Jvm.ClassFile.FieldType.object "java/lang/String")), Jvm.Cond.code ({ cls := "java/lang/String", name := "substring", desc := "(II)Ljava/lang/String;" } : Jvm.MethodName) jdk_42_method_92_code (5 : Nat) (Option.some (Jvm.ClassFile.FieldType.object "java/lang/String")), Jvm.Cond.code ({ cls := "java/lang/String", name := "checkBoundsBeginEnd", desc := "(III)V" } : Jvm.MethodName) jdk_42_method_158_code (3 : Nat) (Option.none : Option Jvm.ClassFile.FieldType), Jvm.Cond.code ({ cls := "jdk/internal/util/Preconditions", name := "checkFromToIndex", desc := "(IIILjava/util/function/BiFunction;)I" } : Jvm.MethodName) jdk_41_method_12_code (4 : Nat) (Option.some Jvm.ClassFile.FieldType.int), Jvm.Cond.code ({ cls := "java/lang/String", name := "equals", desc := "(Ljava/lang/Object;)Z" } : Jvm.MethodName) jdk_42_method_66_code (3 : Nat) (Option.some Jvm.ClassFile.FieldType.boolean), Jvm.Cond.code ({ cls := "java/lang/StringLatin1", name := "equals", desc := "([B[B)Z" } : Jvm.MethodName) jdk_43_method_13_code (3 : Nat) (Option.some Jvm.ClassFile.FieldType.boolean), Jvm.Cond.code ({ cls := "java/lang/String", name := "isLatin1", desc := "()Z" } : Jvm.MethodName) jdk_42_method_154_code (1 : Nat) (Option.some Jvm.ClassFile.FieldType.boolean), Jvm.Cond.code ({ cls := "java/lang/StringLatin1", name := "newString", desc := "([BII)Ljava/lang/String;" } : Jvm.MethodName) jdk_43_method_47_code (3 : Nat) (Option.some (Jvm.ClassFile.FieldType.object "java/lang/String")), Jvm.Cond.code ({ cls := "java/lang/String", name := "valueOf", desc := "(C)Ljava/lang/String;" } : Jvm.MethodName) jdk_42_method_139_code (1 : Nat) (Option.some (Jvm.ClassFile.FieldType.object "java/lang/String")), Jvm.Cond.code ({ cls := "java/lang/StringLatin1", name := "canEncode", desc := "(C)Z" } : Jvm.MethodName) jdk_43_method_3_code (1 : Nat) (Option.some Jvm.ClassFile.FieldType.boolean), Jvm.Cond.code ({ cls := "java/lang/StringLatin1", name := "toBytes", desc := "(C)[B" } : Jvm.MethodName) jdk_43_method_46_code (1 : Nat) (Option.some (Jvm.ClassFile.FieldType.array Jvm.ClassFile.FieldType.byte)), Jvm.Cond.code ({ cls := "java/lang/String", name := "<init>", desc := "([BB)V" } : Jvm.MethodName) jdk_42_method_151_code (3 : Nat) (Option.none : Option Jvm.ClassFile.FieldType), Jvm.Cond.code ({ cls := "java/lang/AbstractStringBuilder", name := "append", desc := "(Ljava/lang/AbstractStringBuilder;)Ljava/lang/AbstractStringBuilder;" } : Jvm.MethodName) jdk_68_method_24_code (3 : Nat) (Option.some (Jvm.ClassFile.FieldType.object "java/lang/AbstractStringBuilder")), Jvm.Cond.code ({ cls := "java/lang/AbstractStringBuilder", name := "inflateIfNeededFor", desc := "(Ljava/lang/AbstractStringBuilder;)V" } : Jvm.MethodName) jdk_68_method_72_code (2 : Nat) (Option.none : Option Jvm.ClassFile.FieldType), Jvm.Cond.code ({ cls := "java/lang/AbstractStringBuilder", name := "getCoder", desc := "()B" } : Jvm.MethodName) jdk_68_method_67_code (1 : Nat) (Option.some Jvm.ClassFile.FieldType.byte), Jvm.Cond.code ({ cls := "java/lang/AbstractStringBuilder", name := "getBytes", desc := "([BIB)V" } : Jvm.MethodName) jdk_68_method_65_code (4 : Nat) (Option.none : Option Jvm.ClassFile.FieldType)]
set_option maxRecDepth 65536 in
theorem codes_eq : words1.filter isCode = codes1 := rfl
theorem w_codes : ∀ c ∈ words1.filter isCode, c.before args0 about1 = true := by
  rw [codes_eq]
  intro c hc
  simp only [codes1, List.mem_cons, List.not_mem_nil, or_false] at hc
  rcases hc with rfl | rfl | rfl | rfl | rfl | rfl | rfl | rfl | rfl | rfl | rfl | rfl | rfl | rfl | rfl | rfl | rfl | rfl | rfl | rfl | rfl | rfl | rfl | rfl | rfl | rfl | rfl | rfl | rfl | rfl | rfl | rfl | rfl | rfl | rfl | rfl | rfl | rfl | rfl | rfl | rfl | rfl | rfl | rfl | rfl | rfl | rfl | rfl | rfl | rfl | rfl | rfl | rfl | rfl | rfl | rfl | rfl | rfl | rfl | rfl | rfl | rfl | rfl
  · exact w_c0
  · exact w_c1
  · exact w_c2
  · exact w_c3
  · exact w_c4
  · exact w_c5
  · exact w_c6
  · exact w_c7
  · exact w_c8
  · exact w_c9
  · exact w_c10
  · exact w_c11
  · exact w_c12
  · exact w_c13
  · exact w_c14
  · exact w_c15
  · exact w_c16
  · exact w_c17
  · exact w_c18
  · exact w_c19
  · exact w_c20
  · exact w_c21
  · exact w_c22
  · exact w_c23
  · exact w_c24
  · exact w_c25
  · exact w_c26
  · exact w_c27
  · exact w_c28
  · exact w_c29
  · exact w_c30
  · exact w_c31
  · exact w_c32
  · exact w_c33
  · exact w_c34
  · exact w_c35
  · exact w_c36
  · exact w_c37
  · exact w_c38
  · exact w_c39
  · exact w_c40
  · exact w_c41
  · exact w_c42
  · exact w_c43
  · exact w_c44
  · exact w_c45
  · exact w_c46
  · exact w_c47
  · exact w_c48
  · exact w_c49
  · exact w_c50
  · exact w_c51
  · exact w_c52
  · exact w_c53
  · exact w_c54
  · exact w_c55
  · exact w_c56
  · exact w_c57
  · exact w_c58
  · exact w_c59
  · exact w_c60
  · exact w_c61
  · exact w_c62
set_option maxRecDepth 65536 in
theorem w_t1 : (words1.take 24).all (fun c => isCode c || c.before args0 about1) = true := by decide +kernel
set_option maxRecDepth 65536 in
theorem w_t2 : ((words1.drop 24).take 24).all (fun c => isCode c || c.before args0 about1) = true := by decide +kernel
set_option maxRecDepth 65536 in
theorem w_t3 : (((words1.drop 24).drop 24).take 24).all (fun c => isCode c || c.before args0 about1) = true := by decide +kernel
set_option maxRecDepth 65536 in
theorem w_t4 : ((((words1.drop 24).drop 24).drop 24).take 24).all (fun c => isCode c || c.before args0 about1) = true := by decide +kernel
set_option maxRecDepth 65536 in
theorem w_t5 : (((((words1.drop 24).drop 24).drop 24).drop 24).take 24).all (fun c => isCode c || c.before args0 about1) = true := by decide +kernel
set_option maxRecDepth 65536 in
theorem w_t6 : ((((((words1.drop 24).drop 24).drop 24).drop 24).drop 24).take 24).all (fun c => isCode c || c.before args0 about1) = true := by decide +kernel
set_option maxRecDepth 65536 in
theorem w_t7 : (((((((words1.drop 24).drop 24).drop 24).drop 24).drop 24).drop 24).take 24).all (fun c => isCode c || c.before args0 about1) = true := by decide +kernel
set_option maxRecDepth 65536 in
theorem w_t8 : ((((((((words1.drop 24).drop 24).drop 24).drop 24).drop 24).drop 24).drop 24).take 24).all (fun c => isCode c || c.before args0 about1) = true := by decide +kernel
set_option maxRecDepth 65536 in
theorem w_t9 : (((((((((words1.drop 24).drop 24).drop 24).drop 24).drop 24).drop 24).drop 24).drop 24).take 24).all (fun c => isCode c || c.before args0 about1) = true := by decide +kernel
set_option maxRecDepth 65536 in
theorem w_t10 : ((((((((((words1.drop 24).drop 24).drop 24).drop 24).drop 24).drop 24).drop 24).drop 24).drop 24).take 24).all (fun c => isCode c || c.before args0 about1) = true := by decide +kernel
set_option maxRecDepth 65536 in
theorem w_t11 : (((((((((((words1.drop 24).drop 24).drop 24).drop 24).drop 24).drop 24).drop 24).drop 24).drop 24).drop 24).take 24).all (fun c => isCode c || c.before args0 about1) = true := by decide +kernel
set_option maxRecDepth 65536 in
theorem w_t12 : ((((((((((((words1.drop 24).drop 24).drop 24).drop 24).drop 24).drop 24).drop 24).drop 24).drop 24).drop 24).drop 24).take 24).all (fun c => isCode c || c.before args0 about1) = true := by decide +kernel
set_option maxRecDepth 65536 in
theorem w_t13 : (((((((((((((words1.drop 24).drop 24).drop 24).drop 24).drop 24).drop 24).drop 24).drop 24).drop 24).drop 24).drop 24).drop 24).take 24).all (fun c => isCode c || c.before args0 about1) = true := by decide +kernel
set_option maxRecDepth 65536 in
theorem w_t14 : ((((((((((((((words1.drop 24).drop 24).drop 24).drop 24).drop 24).drop 24).drop 24).drop 24).drop 24).drop 24).drop 24).drop 24).drop 24).take 24).all (fun c => isCode c || c.before args0 about1) = true := by decide +kernel
set_option maxRecDepth 65536 in
theorem w_t15 : ((((((((((((((words1.drop 24).drop 24).drop 24).drop 24).drop 24).drop 24).drop 24).drop 24).drop 24).drop 24).drop 24).drop 24).drop 24).drop 24).all (fun c => isCode c || c.before args0 about1) = true := by decide +kernel
theorem w_tables : (allAtoms (Jvm.Cond.code x code maxLocals ret :: tables_1)).before args0 about1 = true := by
  rw [allAtoms_all]
  show words1.all (fun c => c.before args0 about1) = true
  refine all_split ?_ w_codes
  rw [← List.take_append_drop 24 words1, List.all_append, w_t1, ← List.take_append_drop 24 (words1.drop 24), List.all_append, w_t2, ← List.take_append_drop 24 ((words1.drop 24).drop 24), List.all_append, w_t3, ← List.take_append_drop 24 (((words1.drop 24).drop 24).drop 24), List.all_append, w_t4, ← List.take_append_drop 24 ((((words1.drop 24).drop 24).drop 24).drop 24), List.all_append, w_t5, ← List.take_append_drop 24 (((((words1.drop 24).drop 24).drop 24).drop 24).drop 24), List.all_append, w_t6, ← List.take_append_drop 24 ((((((words1.drop 24).drop 24).drop 24).drop 24).drop 24).drop 24), List.all_append, w_t7, ← List.take_append_drop 24 (((((((words1.drop 24).drop 24).drop 24).drop 24).drop 24).drop 24).drop 24), List.all_append, w_t8, ← List.take_append_drop 24 ((((((((words1.drop 24).drop 24).drop 24).drop 24).drop 24).drop 24).drop 24).drop 24), List.all_append, w_t9, ← List.take_append_drop 24 (((((((((words1.drop 24).drop 24).drop 24).drop 24).drop 24).drop 24).drop 24).drop 24).drop 24), List.all_append, w_t10, ← List.take_append_drop 24 ((((((((((words1.drop 24).drop 24).drop 24).drop 24).drop 24).drop 24).drop 24).drop 24).drop 24).drop 24), List.all_append, w_t11, ← List.take_append_drop 24 (((((((((((words1.drop 24).drop 24).drop 24).drop 24).drop 24).drop 24).drop 24).drop 24).drop 24).drop 24).drop 24), List.all_append, w_t12, ← List.take_append_drop 24 ((((((((((((words1.drop 24).drop 24).drop 24).drop 24).drop 24).drop 24).drop 24).drop 24).drop 24).drop 24).drop 24).drop 24), List.all_append, w_t13, ← List.take_append_drop 24 (((((((((((((words1.drop 24).drop 24).drop 24).drop 24).drop 24).drop 24).drop 24).drop 24).drop 24).drop 24).drop 24).drop 24).drop 24), List.all_append, w_t14, w_t15]
  rfl
set_option maxRecDepth 65536 in
theorem w_rest : rest_1_c.before args0 about1 = true := by decide +kernel
set_option maxRecDepth 65536 in
theorem w_case : (Jvm.Cond.and given_1 narrow_1).before args0 about1 = true := by decide +kernel
set_option maxRecDepth 65536 in
theorem w_consts : constsHeld consts_1 about1 := Jvm.Lit.constsHeldB_iff.mp (by decide +kernel)
theorem w_applies : (headSpec (Jvm.Cond.code x code maxLocals ret :: tables_1) room_1).applies x e0.platform about1 = true :=
  (Spec.applies_iff w_frames).mpr ⟨w_running, w_runnable, w_alone, w_named, w_hears, w_ripe, w_room, w_tables⟩
theorem atStart : AtStart classFile x code maxLocals ret World_1 tables_1 room_1 Calls_1 rest_1 Pre_1 launch0 p0 e0 about1 theMethod args0 below0 :=
  ⟨lists_1, trivial, launch0.admits_env _ _ _, launch0.least_env, fairChoices_fair.cas, fairChoices_fair.clock, w_frames, w_args, w_heap, w_applies, ⟨w_consts, trivial⟩, w_rest, w_case⟩
end start1
theorem witness_1 : WitnessClaimed_1 := ⟨start1.p0, start1.e0, start1.about1, start1.theMethod, start1.args0, start1.below0, start1.atStart⟩
end Jvm.Pilot.@@N@@
