import JvmDerived
import JvmDerived.Pilot.@@N@@Statement
import JvmDerived.Pilot.@@N@@Code
set_option linter.unusedVariables false
set_option linter.unusedSimpArgs false
namespace Jvm.Own
open Jvm Jvm.ClassFile Sem Op Lib Jvm.Free Jvm.Stand Jvm.LawKit Jvm.RoadKit
/-! MY LAYER: a goal 'Wk' over the library's Stand (from any state that stands here with the heap h, the walk comes to its end and Q holds), one rule a step; W: may the walk intern (wide frame). -/
def Bs (W : Bool) (s : State) (vm0 : Vm) (sz : Nat) : Prop := match W with
  | false => vm0 = s.vm
  | true => ∃ k0, s.Since vm0 k0 ∧ k0 ≤ sz
def En (W : Bool) (s : State) (o : Outcome) (t : State) (L : List Loc) (k n : Nat) : Prop := match W with
  | false => FrameEnd s o t L k n
  | true => ReturnedEndW s o t L k n
def Cx (Z : State) (p : Program) (s : State) (m : MethodId) (meth : Method) (c : Code) (y : MethodName) (bytes : ByteArray) (maxL : Nat) (ret : Option FieldType) : Prop :=
  p.tables.exec = Jvm.exec ∧ c.code = bytes ∧ c.maxLocals = maxL ∧ Z.Warmed39 s.vm ∧ s.vm.findClass y.cls = some m.cls ∧ meth.name = y.name ∧ meth.sig.returnType = ret ∧ meth.locks = false
def Wk (W : Bool) (p : Program) (l : Launch) (e : Env) (R : Room) (s : State) (m : MethodId) (args : Array Value) (below : List Frame) (meth : Method) (c : Code) (n0 : Nat) (Q : Option Value → Heap → Prop) (h : Heap) (k n : Nat) (g : JFrame) : Prop :=
  ∀ T L vm0, Stand p l e R (s.setVm vm0) m args below meth c T L k n → Bs W s vm0 h.size → T.heap = h → Fr n0 L →
    ∃ s₂ o, Steps p.tables e below (T.setTop g) s₂ ∧ s₂.status = .running ∧ Ended s₂ below o ∧ ∃ v L, o = .returned v ∧ (Q v s₂.heap ∧ Fr n0 L) ∧ En W s o s₂ L R.cells R.slots
def Met (W : Bool) (l : Launch) (Z : State) (n0 : Nat) (y : MethodName) (bytes : ByteArray) (maxL : Nat) (ret : Option FieldType) (rm : Room) (as : Array Value) (h : Heap) (Q : Option Value → Heap → Prop) : Prop :=
  ∀ ws, MetFree l y (head1 (Cond.code y bytes maxL ret :: ws) rm) (fun a U => a = as ∧ Z.Warmed39 U.vm ∧ U.heap = h) (fun _ _ _ _ _ => True)
    (fun _ U o U' => ∃ v L, o = .returned v ∧ (Q v U'.heap ∧ Fr n0 L) ∧ En W U o U' L rm.cells rm.slots)
theorem Bs.start (W : Bool) (s : State) (sz : Nat) : Bs W s s.vm sz := by
  cases W
  · rfl
  · exact ⟨0, (State.WarmedH.refl s).since 0, Nat.zero_le _⟩
theorem Bs.mono {W : Bool} {s : State} {vm0 : Vm} {a b : Nat} (B : Bs W s vm0 a) (q : a ≤ b) : Bs W s vm0 b := by
  cases W
  · exact B
  · obtain ⟨k0, h1, h2⟩ := B; exact ⟨k0, h1, Nat.le_trans h2 q⟩
theorem Bs.warm {W : Bool} {s : State} {vm0 : Vm} {a : Nat} (B : Bs W s vm0 a) : s.Warmed39 vm0 := by
  cases W
  · cases (B : vm0 = s.vm); exact State.Warmed39.refl s
  · obtain ⟨k0, h1, h2⟩ := B; exact h1.1
section Cxs
variable {W : Bool} {Z : State} {p : Program} {s : State} {m : MethodId} {meth : Method} {c : Code} {y : MethodName} {bytes : ByteArray} {maxL : Nat} {ret : Option FieldType}
theorem Cx.hx (C : Cx Z p s m meth c y bytes maxL ret) : p.tables.exec = Jvm.exec := C.1
theorem Cx.hby (C : Cx Z p s m meth c y bytes maxL ret) : c.code = bytes := C.2.1
theorem Cx.hml (C : Cx Z p s m meth c y bytes maxL ret) : c.maxLocals = maxL := C.2.2.1
theorem Cx.hZ (C : Cx Z p s m meth c y bytes maxL ret) : Z.Warmed39 s.vm := C.2.2.2.1
theorem Cx.hown (C : Cx Z p s m meth c y bytes maxL ret) : s.vm.findClass y.cls = some m.cls := C.2.2.2.2.1
theorem Cx.hnm (C : Cx Z p s m meth c y bytes maxL ret) : meth.name = y.name := C.2.2.2.2.2.1
theorem Cx.hret (C : Cx Z p s m meth c y bytes maxL ret) : meth.sig.returnType = ret := C.2.2.2.2.2.2.1
theorem Cx.hlk (C : Cx Z p s m meth c y bytes maxL ret) : meth.locks = false := C.2.2.2.2.2.2.2
theorem Cx.wZ (C : Cx Z p s m meth c y bytes maxL ret) {vm0 : Vm} {a : Nat} (B : Bs W s vm0 a) : Z.Warmed39 (s.setVm vm0).vm := State.Warmed39.trans (t := s) C.hZ B.warm
theorem Cx.wo (C : Cx Z p s m meth c y bytes maxL ret) {vm0 : Vm} {a : Nat} (B : Bs W s vm0 a) : (s.setVm vm0).vm.findClass y.cls = some m.cls := by
  show vm0.findClass y.cls = _
  rw [B.warm.alike.findClass]; exact C.hown
end Cxs
theorem Met.of {W : Bool} {l : Launch} {Z : State} {n0 : Nat} {y : MethodName} {bytes : ByteArray} {maxL : Nat} {ret : Option FieldType} {rm : Room} {as : Array Value} {h : Heap} {Q : Option Value → Heap → Prop}
    (hpn : plainFor y = true) (Ls : Array Slot) (hef : ∀ m, entryFrame m as maxL = mkF m 0 Ls [])
    (H : ∀ p e s m below meth c, Cx Z p s m meth c y bytes maxL ret → Wk W p l e rm s m as below meth c n0 Q h 0 0 (mkF m 0 Ls [])) : Met W l Z n0 y bytes maxL ret rm as h Q := by
  intro ws
  refine MetFree.of_bodySF hpn hisR ?_
  intro p e s m args below meth c s₁ Bd hml0 hP hK
  obtain ⟨ha, hZ, hh⟩ := hP
  have hown := findClass_of_methodNamed Bd.named
  have hnm := (name_of_methodNamed Bd.named Bd.method).1
  have e0 : s₁.heap = h := by rw [← hh, Bd.state]; rfl
  have X0 : Stand p l e rm s m args below meth c s₁ [] 0 0 := Stand.of_body Bd
  rw [ha] at X0 ⊢
  obtain ⟨s₂, o, h1, h2⟩ := H p e s m below meth c ⟨Bd.exec, Bd.bytes, hml0, hZ, hown, hnm, Bd.returns, Bd.notSynchronized⟩ s₁ [] s.vm X0 (Bs.start W s _) e0 (Fr.nil n0)
  exact ⟨s₂, o, castTop (hef m) h1, h2⟩
section Rules
variable {W : Bool} {Z : State} {p : Program} {l : Launch} {e : Env} {R : Room} {s : State} {m : MethodId} {args : Array Value} {below : List Frame} {meth : Method} {c : Code} {y : MethodName} {bytes : ByteArray} {maxL : Nat} {ret : Option FieldType} {n0 : Nat} {Q : Option Value → Heap → Prop} {h : Heap} {k n : Nat} {g g' : JFrame} {a0 : Array Value}
theorem Wk.more {k' n' : Nat} (q1 : k ≤ k') (q2 : n ≤ n') (H : Wk W p l e R s m args below meth c n0 Q h k' n' g) : Wk W p l e R s m args below meth c n0 Q h k n g :=
  fun T L vm0 X B eT N => H T L vm0 (X.more q1 q2) B eT N
theorem Wk.st (f : ∀ {T : State} {L : List Loc} {vm0 : Vm}, Stand p l e R (s.setVm vm0) m args below meth c T L k n → ∀ t, Steps p.tables e below (T.setTop g') t → Steps p.tables e below (T.setTop g) t)
    (H : Wk W p l e R s m args below meth c n0 Q h k n g') : Wk W p l e R s m args below meth c n0 Q h k n g := by
  intro T L vm0 X B eT N
  obtain ⟨s₂, o, h1, h2⟩ := H T L vm0 X B eT N
  exact ⟨s₂, o, f X _ h1, h2⟩
/-- a step that needs the tables (as they stand at vm0) and the heap, and leaves the heap -/
theorem Wk.stZ (C : Cx Z p s m meth c y bytes maxL ret) (f : ∀ {T : State} {L : List Loc} {vm0 : Vm}, Stand p l e R (s.setVm vm0) m args below meth c T L k n → Z.Warmed39 (s.setVm vm0).vm → (s.setVm vm0).vm.findClass y.cls = some m.cls → T.heap = h → ∃ T', Stand p l e R (s.setVm vm0) m args below meth c T' L k n ∧ T'.heap = h ∧ ∀ t, Steps p.tables e below (T'.setTop g') t → Steps p.tables e below (T.setTop g) t)
    (H : Wk W p l e R s m args below meth c n0 Q h k n g') : Wk W p l e R s m args below meth c n0 Q h k n g := by
  intro T L vm0 X B eT N
  obtain ⟨T', X', e', st⟩ := f X (C.wZ B) (C.wo B) eT
  obtain ⟨s₂, o, h1, h2⟩ := H T' L vm0 X' B e' N
  exact ⟨s₂, o, st _ h1, h2⟩
/-- a step that writes one place of a new cell -/
theorem Wk.stW (C : Cx Z p s m meth c y bytes maxL ret) {a : Addr} {sl : Nat} {v : Value} (ge : n0 ≤ a) (f : ∀ {T : State} {L : List Loc} {vm0 : Vm}, Stand p l e R (s.setVm vm0) m args below meth c T L k n → Z.Warmed39 (s.setVm vm0).vm → (s.setVm vm0).vm.findClass y.cls = some m.cls → T.heap = h → ∃ T' h', Stand p l e R (s.setVm vm0) m args below meth c T' (L ++ [⟨a, sl⟩]) k n ∧ T'.heap = h' ∧ Wr h h' a sl v ∧ ∀ t, Steps p.tables e below (T'.setTop g') t → Steps p.tables e below (T.setTop g) t)
    (H : ∀ h', Wr h h' a sl v → Wk W p l e R s m args below meth c n0 Q h' k n g') : Wk W p l e R s m args below meth c n0 Q h k n g := by
  intro T L vm0 X B eT N
  obtain ⟨T', h', X', e', Wh, st⟩ := f X (C.wZ B) (C.wo B) eT
  obtain ⟨s₂, o, h1, h2⟩ := H h' Wh T' _ vm0 X' (B.mono (Nat.le_of_eq Wh.size.symm)) e' (Fr.snoc X' N ge)
  exact ⟨s₂, o, st _ h1, h2⟩
theorem Wk.ldcI (C : Cx Z p s m meth c y bytes maxL ret) {index : Nat} {v : Int32} (w : (Cond.constant y.cls index v).before a0 Z = true) {pc : Nat} {Ls : Array Slot} {st : List Value} (hd : decode bytes pc = .ok (.ldc index, 2))
    (H : Wk W p l e R s m args below meth c n0 Q h k n (mkF m (pc + 2) Ls (.int v :: st))) : Wk W p l e R s m args below meth c n0 Q h k n (mkF m pc Ls st) :=
  Wk.stZ C (fun X hZ ho eT => ⟨_, X, eT, fun t q => X.ldcI C.hx ho (mvT hZ w) rfl (hb C.hby hd) q⟩) H
theorem Wk.ldc2J (C : Cx Z p s m meth c y bytes maxL ret) {index : Nat} {v : Int64} (w : (Cond.constantLong y.cls index v).before a0 Z = true) {pc : Nat} {Ls : Array Slot} {st : List Value} (hd : decode bytes pc = .ok (.ldc2_w index, 3))
    (H : Wk W p l e R s m args below meth c n0 Q h k n (mkF m (pc + 3) Ls (.long v :: st))) : Wk W p l e R s m args below meth c n0 Q h k n (mkF m pc Ls st) :=
  Wk.stZ C (fun X hZ ho eT => ⟨_, X, eT, fun t q => X.ldc2J C.hx ho (mvT hZ w) rfl (hb C.hby hd) q⟩) H
theorem Wk.ldc2D (C : Cx Z p s m meth c y bytes maxL ret) {index : Nat} {v : UInt64} (w : (Cond.constantDouble y.cls index v).before a0 Z = true) {pc : Nat} {Ls : Array Slot} {st : List Value} (hd : decode bytes pc = .ok (.ldc2_w index, 3))
    (H : Wk W p l e R s m args below meth c n0 Q h k n (mkF m (pc + 3) Ls (.double v :: st))) : Wk W p l e R s m args below meth c n0 Q h k n (mkF m pc Ls st) :=
  Wk.stZ C (fun X hZ ho eT => ⟨_, X, eT, fun t q => X.ldc2DoubleC C.hx ho (mvT hZ w) (g := mkF m pc Ls st) rfl (hb C.hby hd) _ q⟩) H
theorem Wk.ldcF (C : Cx Z p s m meth c y bytes maxL ret) {index : Nat} {v : UInt32} (w : (Cond.constantFloat y.cls index v).before a0 Z = true) {pc : Nat} {Ls : Array Slot} {st : List Value} (hd : decode bytes pc = .ok (.ldc index, 2))
    (H : Wk W p l e R s m args below meth c n0 Q h k n (mkF m (pc + 2) Ls (.float v :: st))) : Wk W p l e R s m args below meth c n0 Q h k n (mkF m pc Ls st) :=
  Wk.stZ C (fun X hZ ho eT => ⟨_, X, eT, fun t q => X.ldcFloatC C.hx ho (mvT hZ w) (g := mkF m pc Ls st) rfl (hb C.hby hd) _ q⟩) H
theorem Wk.cast (C : Cx Z p s m meth c y bytes maxL ret) {K : String} {index : Nat} (w : (Cond.classLink y.cls index K).before a0 Z = true) {a : Addr} (F : Ins Z h a K true) {pc : Nat} {Ls : Array Slot} {st : List Value} (hd : decode bytes pc = .ok (.checkcast index, 3))
    (H : Wk W p l e R s m args below meth c n0 Q h k n (mkF m (pc + 3) Ls (.ref a :: st))) : Wk W p l e R s m args below meth c n0 Q h k n (mkF m pc Ls (.ref a :: st)) :=
  Wk.stZ C (fun X hZ ho eT => castY X C.hx hZ ho w eT F (g := mkF m pc Ls (.ref a :: st)) rfl rfl (hb C.hby hd)) H
theorem Wk.getS (C : Cx Z p s m meth c y bytes maxL ret) {O nm d : String} {index : Nat} (w : (Cond.fieldLink y.cls index O nm d).before a0 Z = true) {v : Value} (F : Sta Z h O nm d v) {pc : Nat} {Ls : Array Slot} {st : List Value} (hd : decode bytes pc = .ok (.getstatic index, 3))
    (H : Wk W p l e R s m args below meth c n0 Q h k n (mkF m (pc + 3) Ls (v :: st))) : Wk W p l e R s m args below meth c n0 Q h k n (mkF m pc Ls st) :=
  Wk.stZ C (fun X hZ ho eT => Jvm.RoadKit.getS (host := "") X C.hx hZ ho w Via.refl eT F (g := mkF m pc Ls st) rfl (hb C.hby hd)) H
theorem Wk.getF (C : Cx Z p s m meth c y bytes maxL ret) {R0 O nm d : String} {index : Nat} (w : (Cond.fieldLink y.cls index R0 nm d).before a0 Z = true) (via : Via Z R0 O nm d) {a : Addr} {v : Value} (F : Fld Z h a O nm d v) {pc : Nat} {Ls : Array Slot} {st : List Value} (hd : decode bytes pc = .ok (.getfield index, 3))
    (H : Wk W p l e R s m args below meth c n0 Q h k n (mkF m (pc + 3) Ls (v :: st))) : Wk W p l e R s m args below meth c n0 Q h k n (mkF m pc Ls (.ref a :: st)) :=
  Wk.stZ C (fun X hZ ho eT => Jvm.RoadKit.getF (host := "") X C.hx hZ ho (Or.inl w) via eT F (g := mkF m pc Ls (.ref a :: st)) rfl rfl (hb C.hby hd)) H
theorem Wk.putF (C : Cx Z p s m meth c y bytes maxL ret) {R0 O nm d K : String} {index kk : Nat} {ty : FieldType} (w : (Cond.fieldLink y.cls index R0 nm d).before a0 Z = true) (via : Via Z R0 O nm d) {a : Addr} {v v' old : Value} (F : Fld Z h a O nm d old) (E : Exa Z h a K)
    (L : (Cond.lays K O nm d).before a0 Z = true ∨ ((Cond.laysFinal K O nm d).before a0 Z = true ∧ y.cls = O ∧ y.name = "<init>")) (wi : (Cond.instantiable K kk).before a0 Z = true) (hty : parseFieldDescriptor d = some ty) (hn : narrow ty v = v') (hf : fits ty v' = true) (ge : n0 ≤ a)
    {pc : Nat} {Ls : Array Slot} {st : List Value} (hd : decode bytes pc = .ok (.putfield index, 3))
    (H : ∀ h', Wr h h' a (Jvm.RoadKit.slotOf Z O nm d) v' → Wk W p l e R s m args below meth c n0 Q h' k n (mkF m (pc + 3) Ls st)) : Wk W p l e R s m args below meth c n0 Q h k n (mkF m pc Ls (v :: .ref a :: st)) :=
  Wk.stW C ge (fun X hZ ho eT => Jvm.RoadKit.putFN X C.hx hZ ho w via eT F E (L.imp id fun q => ⟨q.1, q.2.1, C.hnm.trans q.2.2⟩) wi hty hn hf (g := mkF m pc Ls (v :: .ref a :: st)) rfl rfl (hb C.hby hd)) H
theorem Wk.newO (C : Cx Z p s m meth c y bytes maxL ret) {K : String} {index sz : Nat} (w : (Cond.classLink y.cls index K).before a0 Z = true) (wi : (Cond.instantiable K sz).before a0 Z = true) (wz : (Cond.initialized K).before a0 Z = true) {pc : Nat} {Ls : Array Slot} {st : List Value} (hd : decode bytes pc = .ok (.new index, 3)) (hc : k + 1 ≤ R.cells) (hl : n + sz ≤ R.slots)
    (H : ∀ h' a, a = h.size → Ext h h' → Exa Z h' a K → (∀ {O nm d : String} {ty : FieldType}, Laid Z a0 K O nm d → parseFieldDescriptor d = some ty → Fld Z h' a O nm d (defaultValue ty)) → Wk W p l e R s m args below meth c n0 Q h' (k + 1) (n + sz) (mkF m (pc + 3) Ls (.ref a :: st))) :
    Wk W p l e R s m args below meth c n0 Q h k n (mkF m pc Ls st) := by
  intro T L vm0 X B eT N
  obtain ⟨T', h', X', e', E, A, D, -, st⟩ := Jvm.RoadKit.newO X C.hx (C.wZ B) (C.wo B) w wi wz eT (g := mkF m pc Ls st) rfl (hb C.hby hd) hc hl
  obtain ⟨s₂, o, h1, h2⟩ := H h' _ rfl E A D T' L vm0 X' (B.mono E.1) e' N
  exact ⟨s₂, o, st _ h1, h2⟩
theorem Wk.newP (C : Cx Z p s m meth c y bytes maxL ret) {aty : ArrayType} (w : (Cond.arrayClass (newarray.typeOf aty)).before a0 Z = true) {z : Int32} (hz : ¬ z < 0) {cap : Nat} (hcap : z.toNatClampNeg ≤ cap) (hbig : cap * 8 ≤ 536870912) {pc : Nat} {Ls : Array Slot} {st : List Value} (hd : decode bytes pc = .ok (.newarray aty, 2)) (hc : k + 1 ≤ R.cells) (hl : n + cap ≤ R.slots)
    (H : ∀ h' a cA, a = h.size → Ext h h' → Arr Z h' a (newA cA (newarray.typeOf aty) z) (newarray.typeOf aty) → Wk W p l e R s m args below meth c n0 Q h' (k + 1) (n + cap) (mkF m (pc + 2) Ls (.ref a :: st))) :
    Wk W p l e R s m args below meth c n0 Q h k n (mkF m pc Ls (.int z :: st)) := by
  intro T L vm0 X B eT N
  obtain ⟨T', h', cA, X', e', E, A, st⟩ := Jvm.RoadKit.newP X C.hx (C.wZ B) w eT (g := mkF m pc Ls (.int z :: st)) rfl (hb C.hby hd) rfl hz hcap hbig hc hl
  obtain ⟨s₂, o, h1, h2⟩ := H h' _ cA rfl E A T' L vm0 X' (B.mono E.1) e' N
  exact ⟨s₂, o, st _ h1, h2⟩
theorem Wk.newR (C : Cx Z p s m meth c y bytes maxL ret) {K : String} {index : Nat} (w1 : (Cond.classLink y.cls index K).before a0 Z = true) (w2 : (Cond.arrayOver (.object K)).before a0 Z = true) {z : Int32} (hz : ¬ z < 0) {cap : Nat} (hcap : z.toNatClampNeg ≤ cap) (hbig : cap * 8 ≤ 536870912) {pc : Nat} {Ls : Array Slot} {st : List Value} (hd : decode bytes pc = .ok (.anewarray index, 3)) (hc : k + 1 ≤ R.cells) (hl : n + cap ≤ R.slots)
    (H : ∀ h' a cA, a = h.size → Ext h h' → Arr Z h' a (newA cA (.object K) z) (.object K) → Ovr Z cA K → Wk W p l e R s m args below meth c n0 Q h' (k + 1) (n + cap) (mkF m (pc + 3) Ls (.ref a :: st))) :
    Wk W p l e R s m args below meth c n0 Q h k n (mkF m pc Ls (.int z :: st)) := by
  intro T L vm0 X B eT N
  obtain ⟨T', h', cA, X', e', E, A, O, st⟩ := Jvm.RoadKit.newR X C.hx (C.wZ B) (C.wo B) w1 w2 eT (g := mkF m pc Ls (.int z :: st)) rfl (hb C.hby hd) rfl hz hcap hbig hc hl
  obtain ⟨s₂, o, h1, h2⟩ := H h' _ cA rfl E A O T' L vm0 X' (B.mono E.1) e' N
  exact ⟨s₂, o, st _ h1, h2⟩
theorem Wk.stI (C : Cx Z p s m meth c y bytes maxL ret) {a : Addr} {cl : Cell} (A : Arr Z h a cl .int) {j x : Int32} (hj : ¬ (j < 0 ∨ cl.slots.size ≤ j.toNatClampNeg)) (ge : n0 ≤ a) {pc : Nat} {Ls : Array Slot} {st : List Value} (hd : decode bytes pc = .ok (.iastore, 1))
    (H : ∀ h', Wr h h' a j.toNatClampNeg (.int x) → Wk W p l e R s m args below meth c n0 Q h' k n (mkF m (pc + 1) Ls st)) : Wk W p l e R s m args below meth c n0 Q h k n (mkF m pc Ls (.int x :: .int j :: .ref a :: st)) :=
  Wk.stW C ge (fun X hZ ho eT => Jvm.RoadKit.stI X C.hx hZ eT A hj (g := mkF m pc Ls (.int x :: .int j :: .ref a :: st)) rfl rfl (hb C.hby hd)) H
theorem Wk.stJ (C : Cx Z p s m meth c y bytes maxL ret) {a : Addr} {cl : Cell} (A : Arr Z h a cl .long) {j : Int32} {x : Int64} (hj : ¬ (j < 0 ∨ cl.slots.size ≤ j.toNatClampNeg)) (ge : n0 ≤ a) {pc : Nat} {Ls : Array Slot} {st : List Value} (hd : decode bytes pc = .ok (.lastore, 1))
    (H : ∀ h', Wr h h' a j.toNatClampNeg (.long x) → Wk W p l e R s m args below meth c n0 Q h' k n (mkF m (pc + 1) Ls st)) : Wk W p l e R s m args below meth c n0 Q h k n (mkF m pc Ls (.long x :: .int j :: .ref a :: st)) :=
  Wk.stW C ge (fun X hZ ho eT => Jvm.RoadKit.stJ X C.hx hZ eT A hj (g := mkF m pc Ls (.long x :: .int j :: .ref a :: st)) rfl rfl (hb C.hby hd)) H
theorem Wk.stD (C : Cx Z p s m meth c y bytes maxL ret) {a : Addr} {cl : Cell} (A : Arr Z h a cl .double) {j : Int32} {x : UInt64} (hj : ¬ (j < 0 ∨ cl.slots.size ≤ j.toNatClampNeg)) (ge : n0 ≤ a) {pc : Nat} {Ls : Array Slot} {st : List Value} (hd : decode bytes pc = .ok (.dastore, 1))
    (H : ∀ h', Wr h h' a j.toNatClampNeg (.double x) → Wk W p l e R s m args below meth c n0 Q h' k n (mkF m (pc + 1) Ls st)) : Wk W p l e R s m args below meth c n0 Q h k n (mkF m pc Ls (.double x :: .int j :: .ref a :: st)) :=
  Wk.stW C ge (fun X hZ ho eT => Jvm.RoadKit.stD X C.hx hZ eT A hj (g := mkF m pc Ls (.double x :: .int j :: .ref a :: st)) rfl rfl (hb C.hby hd)) H
theorem Wk.stR (C : Cx Z p s m meth c y bytes maxL ret) {a : Addr} {cl : Cell} {ty : FieldType} (A : Arr Z h a cl ty) {j : Int32} {v : Value} (hj : ¬ (j < 0 ∨ cl.slots.size ≤ j.toNatClampNeg)) (hty : ty.isReference = true) (F : Sto Z h a v) (ge : n0 ≤ a) {pc : Nat} {Ls : Array Slot} {st : List Value} (hd : decode bytes pc = .ok (.aastore, 1))
    (H : ∀ h', Wr h h' a j.toNatClampNeg v → Wk W p l e R s m args below meth c n0 Q h' k n (mkF m (pc + 1) Ls st)) : Wk W p l e R s m args below meth c n0 Q h k n (mkF m pc Ls (v :: .int j :: .ref a :: st)) :=
  Wk.stW C ge (fun X hZ ho eT => Jvm.RoadKit.stR X C.hx hZ eT A hj hty F (g := mkF m pc Ls (v :: .int j :: .ref a :: st)) rfl rfl (hb C.hby hd)) H
theorem Wk.len (C : Cx Z p s m meth c y bytes maxL ret) {a : Addr} {cl : Cell} {ty : FieldType} (A : Arr Z h a cl ty) {pc : Nat} {Ls : Array Slot} {st : List Value} (hd : decode bytes pc = .ok (.arraylength, 1))
    (H : Wk W p l e R s m args below meth c n0 Q h k n (mkF m (pc + 1) Ls (.int cl.slots.size.toInt32 :: st))) : Wk W p l e R s m args below meth c n0 Q h k n (mkF m pc Ls (.ref a :: st)) :=
  Wk.stZ C (fun X hZ ho eT => ⟨_, X, eT, X.arraylength C.hx (by rw [eT]; exact A.1) (State.isArrayOf_alike hZ.alike A.2.1) (g := mkF m pc Ls (.ref a :: st)) rfl rfl (hb C.hby hd)⟩) H
theorem Wk.ldI (C : Cx Z p s m meth c y bytes maxL ret) {a : Addr} {cl : Cell} (A : Arr Z h a cl .int) {j : Int32} {v : Value} (hj : ¬ (j < 0 ∨ cl.slots.size ≤ j.toNatClampNeg)) (hv : cl.slots[j.toNatClampNeg]? = some v) {pc : Nat} {Ls : Array Slot} {st : List Value} (hd : decode bytes pc = .ok (.iaload, 1))
    (H : Wk W p l e R s m args below meth c n0 Q h k n (mkF m (pc + 1) Ls (v :: st))) : Wk W p l e R s m args below meth c n0 Q h k n (mkF m pc Ls (.int j :: .ref a :: st)) :=
  Wk.stZ C (fun X hZ ho eT => ⟨_, X, eT, X.iaload C.hx (by rw [eT]; exact A.1) (State.isArrayOf_alike hZ.alike A.2.1) A.2.2 hj hv (g := mkF m pc Ls (.int j :: .ref a :: st)) rfl rfl (hb C.hby hd)⟩) H
theorem Wk.ldJ (C : Cx Z p s m meth c y bytes maxL ret) {a : Addr} {cl : Cell} (A : Arr Z h a cl .long) {j : Int32} {v : Value} (hj : ¬ (j < 0 ∨ cl.slots.size ≤ j.toNatClampNeg)) (hv : cl.slots[j.toNatClampNeg]? = some v) {pc : Nat} {Ls : Array Slot} {st : List Value} (hd : decode bytes pc = .ok (.laload, 1))
    (H : Wk W p l e R s m args below meth c n0 Q h k n (mkF m (pc + 1) Ls (v :: st))) : Wk W p l e R s m args below meth c n0 Q h k n (mkF m pc Ls (.int j :: .ref a :: st)) :=
  Wk.stZ C (fun X hZ ho eT => ⟨_, X, eT, X.laload C.hx (by rw [eT]; exact A.1) (State.isArrayOf_alike hZ.alike A.2.1) A.2.2 hj hv (g := mkF m pc Ls (.int j :: .ref a :: st)) rfl rfl (hb C.hby hd)⟩) H
theorem Wk.ldD (C : Cx Z p s m meth c y bytes maxL ret) {a : Addr} {cl : Cell} (A : Arr Z h a cl .double) {j : Int32} {v : Value} (hj : ¬ (j < 0 ∨ cl.slots.size ≤ j.toNatClampNeg)) (hv : cl.slots[j.toNatClampNeg]? = some v) {pc : Nat} {Ls : Array Slot} {st : List Value} (hd : decode bytes pc = .ok (.daload, 1))
    (H : Wk W p l e R s m args below meth c n0 Q h k n (mkF m (pc + 1) Ls (v :: st))) : Wk W p l e R s m args below meth c n0 Q h k n (mkF m pc Ls (.int j :: .ref a :: st)) :=
  Wk.stZ C (fun X hZ ho eT => ⟨_, X, eT, X.daload C.hx (by rw [eT]; exact A.1) (State.isArrayOf_alike hZ.alike A.2.1) A.2.2 hj hv (g := mkF m pc Ls (.int j :: .ref a :: st)) rfl rfl (hb C.hby hd)⟩) H
theorem Wk.ldR (C : Cx Z p s m meth c y bytes maxL ret) {a : Addr} {cl : Cell} {ty : FieldType} (A : Arr Z h a cl ty) (hty : ty.isReference = true) {j : Int32} {v : Value} (hj : ¬ (j < 0 ∨ cl.slots.size ≤ j.toNatClampNeg)) (hv : cl.slots[j.toNatClampNeg]? = some v) {pc : Nat} {Ls : Array Slot} {st : List Value} (hd : decode bytes pc = .ok (.aaload, 1))
    (H : Wk W p l e R s m args below meth c n0 Q h k n (mkF m (pc + 1) Ls (v :: st))) : Wk W p l e R s m args below meth c n0 Q h k n (mkF m pc Ls (.int j :: .ref a :: st)) :=
  Wk.stZ C (fun X hZ ho eT => ⟨_, X, eT, X.aaload C.hx (by rw [eT]; exact A.1) (State.isArrayOf_alike hZ.alike A.2.1) hty A.2.2 hj hv (g := mkF m pc Ls (.int j :: .ref a :: st)) rfl rfl (hb C.hby hd)⟩) H
theorem Wk.ldZ (C : Cx Z p s m meth c y bytes maxL ret) {a : Addr} {cl : Cell} (A : Arr Z h a cl .boolean) {j : Int32} {v : Value} (hj : ¬ (j < 0 ∨ cl.slots.size ≤ j.toNatClampNeg)) (hv : cl.slots[j.toNatClampNeg]? = some v) {pc : Nat} {Ls : Array Slot} {st : List Value} (hd : decode bytes pc = .ok (.baload, 1))
    (H : Wk W p l e R s m args below meth c n0 Q h k n (mkF m (pc + 1) Ls (v :: st))) : Wk W p l e R s m args below meth c n0 Q h k n (mkF m pc Ls (.int j :: .ref a :: st)) :=
  Wk.stZ C (fun X hZ ho eT => ⟨_, X, eT, X.baloadBooleans C.hx (by rw [eT]; exact A.1) (State.isArrayOf_alike hZ.alike A.2.1) A.2.2 hj hv (g := mkF m pc Ls (.int j :: .ref a :: st)) rfl rfl (hb C.hby hd)⟩) H
theorem Wk.ldC (C : Cx Z p s m meth c y bytes maxL ret) {a : Addr} {cl : Cell} (A : Arr Z h a cl .char) {j : Int32} {v : Value} (hj : ¬ (j < 0 ∨ cl.slots.size ≤ j.toNatClampNeg)) (hv : cl.slots[j.toNatClampNeg]? = some v) {pc : Nat} {Ls : Array Slot} {st : List Value} (hd : decode bytes pc = .ok (.caload, 1))
    (H : Wk W p l e R s m args below meth c n0 Q h k n (mkF m (pc + 1) Ls (v :: st))) : Wk W p l e R s m args below meth c n0 Q h k n (mkF m pc Ls (.int j :: .ref a :: st)) :=
  Wk.stZ C (fun X hZ ho eT => ⟨_, X, eT, X.caload C.hx (by rw [eT]; exact A.1) (State.isArrayOf_alike hZ.alike A.2.1) A.2.2 hj hv (g := mkF m pc Ls (.int j :: .ref a :: st)) rfl rfl (hb C.hby hd)⟩) H
theorem Wk.ldB (C : Cx Z p s m meth c y bytes maxL ret) {a : Addr} {cl : Cell} (A : Arr Z h a cl .byte) {j : Int32} {v : Value} (hj : ¬ (j < 0 ∨ cl.slots.size ≤ j.toNatClampNeg)) (hv : cl.slots[j.toNatClampNeg]? = some v) {pc : Nat} {Ls : Array Slot} {st : List Value} (hd : decode bytes pc = .ok (.baload, 1))
    (H : Wk W p l e R s m args below meth c n0 Q h k n (mkF m (pc + 1) Ls (v :: st))) : Wk W p l e R s m args below meth c n0 Q h k n (mkF m pc Ls (.int j :: .ref a :: st)) :=
  Wk.stZ C (fun X hZ ho eT => ⟨_, X, eT, X.baloadBytes C.hx (by rw [eT]; exact A.1) (State.isArrayOf_alike hZ.alike A.2.1) A.2.2 hj hv (g := mkF m pc Ls (.int j :: .ref a :: st)) rfl rfl (hb C.hby hd)⟩) H
theorem Wk.stZb (C : Cx Z p s m meth c y bytes maxL ret) {a : Addr} {cl : Cell} (A : Arr Z h a cl .boolean) {j x : Int32} (hj : ¬ (j < 0 ∨ cl.slots.size ≤ j.toNatClampNeg)) (ge : n0 ≤ a) {pc : Nat} {Ls : Array Slot} {st : List Value} (hd : decode bytes pc = .ok (.bastore, 1))
    (H : ∀ h', Wr h h' a j.toNatClampNeg (.int (nar .boolean x)) → Wk W p l e R s m args below meth c n0 Q h' k n (mkF m (pc + 1) Ls st)) : Wk W p l e R s m args below meth c n0 Q h k n (mkF m pc Ls (.int x :: .int j :: .ref a :: st)) :=
  Wk.stW C ge (fun X hZ ho eT => Jvm.RoadKit.stZ X C.hx hZ eT A hj (g := mkF m pc Ls (.int x :: .int j :: .ref a :: st)) rfl rfl (hb C.hby hd)) H
theorem Wk.stB (C : Cx Z p s m meth c y bytes maxL ret) {a : Addr} {cl : Cell} (A : Arr Z h a cl .byte) {j x : Int32} (hj : ¬ (j < 0 ∨ cl.slots.size ≤ j.toNatClampNeg)) (ge : n0 ≤ a) {pc : Nat} {Ls : Array Slot} {st : List Value} (hd : decode bytes pc = .ok (.bastore, 1))
    (H : ∀ h', Wr h h' a j.toNatClampNeg (.int (nar .byte x)) → Wk W p l e R s m args below meth c n0 Q h' k n (mkF m (pc + 1) Ls st)) : Wk W p l e R s m args below meth c n0 Q h k n (mkF m pc Ls (.int x :: .int j :: .ref a :: st)) :=
  Wk.stW C ge (fun X hZ ho eT => Jvm.RoadKit.stB X C.hx hZ eT A hj (g := mkF m pc Ls (.int x :: .int j :: .ref a :: st)) rfl rfl (hb C.hby hd)) H
theorem Wk.stC (C : Cx Z p s m meth c y bytes maxL ret) {a : Addr} {cl : Cell} (A : Arr Z h a cl .char) {j x : Int32} (hj : ¬ (j < 0 ∨ cl.slots.size ≤ j.toNatClampNeg)) (ge : n0 ≤ a) {pc : Nat} {Ls : Array Slot} {st : List Value} (hd : decode bytes pc = .ok (.castore, 1))
    (H : ∀ h', Wr h h' a j.toNatClampNeg (.int (nar .char x)) → Wk W p l e R s m args below meth c n0 Q h' k n (mkF m (pc + 1) Ls st)) : Wk W p l e R s m args below meth c n0 Q h k n (mkF m pc Ls (.int x :: .int j :: .ref a :: st)) :=
  Wk.stW C ge (fun X hZ ho eT => Jvm.RoadKit.stC X C.hx hZ eT A hj (g := mkF m pc Ls (.int x :: .int j :: .ref a :: st)) rfl rfl (hb C.hby hd)) H
theorem Wk.initO (C : Cx Z p s m meth c y bytes maxL ret) {index : Nat} (w1 : (Cond.methodLink y.cls index Lib.objectInit).before a0 Z = true) (w2 : (Cond.instanceMethod Lib.objectInit).before a0 Z = true) (w3 : (Cond.code Lib.objectInit ⟨#[0xb1]⟩ 1 none).before a0 Z = true) {a : Addr} {w : Nat} {pc : Nat} {Ls : Array Slot} {st : List Value} (hls : Ls.size = maxL) (hd : decode bytes pc = .ok (.invokespecial index, 3)) (hf : 1 ≤ R.frames) (hw : (st.map fun v => v.category).sum ≤ w) (hl : w + 12 ≤ R.locals)
    (H : Wk W p l e R s m args below meth c n0 Q h k n (mkF m (pc + 3) Ls st)) : Wk W p l e R s m args below meth c n0 Q h k n (mkF m pc Ls (.ref a :: st)) :=
  Wk.stZ C (fun X hZ ho eT => Jvm.RoadKit.initO X C.hx hZ ho w1 w2 w3 eT (g := mkF m pc Ls (.ref a :: st)) rfl (hls.trans C.hml.symm) rfl (hb C.hby hd) hf (W := w) (by show 2 * 0 + _ ≤ _; omega) hl) H
theorem Wk.retV (C : Cx Z p s m meth c y bytes maxL ret) {pc : Nat} {Ls : Array Slot} {w : Value} {t : FieldType} {i : Instr} {rest : List Value} (ht : ret = some t) (hn : narrow t w = w)
    (hi : (i = .ireturn ∧ (t = .int ∨ t = .boolean ∨ t = .byte ∨ t = .char ∨ t = .short) ∧ ∃ z, w = .int z) ∨ (i = .lreturn ∧ t = .long ∧ ∃ z, w = .long z) ∨ (i = .dreturn ∧ t = .double ∧ ∃ z, w = .double z) ∨ (i = .freturn ∧ t = .float ∧ ∃ z, w = .float z) ∨ (i = .areturn ∧ t.isReference = true ∧ w.isRef = true))
    (hd : decode bytes pc = .ok (i, 1)) (hk : k ≤ R.cells) (hs : n ≤ R.slots) (hq : Q (some w) h) : Wk W p l e R s m args below meth c n0 Q h k n (mkF m pc Ls (w :: rest)) := by
  intro T L vm0 X B eT N
  have hlk := C.hlk
  have hv : meth.sig.returnType = none → (some w : Option Value) = none := fun h => by rw [C.hret, ht] at h; cases h
  cases W
  · cases (B : vm0 = s.vm)
    obtain ⟨fs, hr, hrun, hended, hW, hsame⟩ := Stand.leave (s := s) X (v := some w) hv hlk
    refine ⟨_, _, retOut X C.hx (C.hret.trans ht) hn hi (hb C.hby hd) hr, hrun, hended, _, L, rfl, ⟨?_, N⟩, ⟨_, rfl⟩, hW, hsame.mono hk hs⟩
    show Q (some w) T.heap
    rw [eT]; exact hq
  · obtain ⟨k0, hS, hk0⟩ := (B : ∃ k0, s.Since vm0 k0 ∧ k0 ≤ h.size)
    obtain ⟨fs, hr, hrun, hended, hE⟩ := X.leaveW hS (by rw [eT]; exact hk0) (v := some w) hv hlk
    refine ⟨_, _, retOut X C.hx (C.hret.trans ht) hn hi (hb C.hby hd) hr, hrun, hended, _, L, rfl, ⟨?_, N⟩, hE.1, hE.2.1, hE.2.2.1, hE.2.2.2.mono hk hs⟩
    show Q (some w) T.heap
    rw [eT]; exact hq
theorem Wk.retN0 (C : Cx Z p s m meth c y bytes maxL ret) {pc : Nat} {Ls : Array Slot} (ht : ret = none) (hd : decode bytes pc = .ok (.return_, 1)) (hk : k ≤ R.cells) (hs : n ≤ R.slots) (hq : Q none h) : Wk W p l e R s m args below meth c n0 Q h k n (mkF m pc Ls []) := by
  intro T L vm0 X B eT N
  have hlk := C.hlk
  have hv : meth.sig.returnType = none → (none : Option Value) = none := fun _ => rfl
  cases W
  · cases (B : vm0 = s.vm)
    obtain ⟨fs, hr, hrun, hended, hW, hsame⟩ := Stand.leave (s := s) X (v := none) hv hlk
    refine ⟨_, _, X.returnOut C.hx (C.hret.trans ht) (hb C.hby hd) hr, hrun, hended, _, L, rfl, ⟨?_, N⟩, ⟨_, rfl⟩, hW, hsame.mono hk hs⟩
    show Q none T.heap
    rw [eT]; exact hq
  · obtain ⟨k0, hS, hk0⟩ := (B : ∃ k0, s.Since vm0 k0 ∧ k0 ≤ h.size)
    obtain ⟨fs, hr, hrun, hended, hE⟩ := X.leaveW hS (by rw [eT]; exact hk0) (v := none) hv hlk
    refine ⟨_, _, X.returnOut C.hx (C.hret.trans ht) (hb C.hby hd) hr, hrun, hended, _, L, rfl, ⟨?_, N⟩, hE.1, hE.2.1, hE.2.2.1, hE.2.2.2.mono hk hs⟩
    show Q none T.heap
    rw [eT]; exact hq
/-- the three calls, by the callee's contract -/
theorem Wk.callS (C : Cx Z p s m meth c y bytes maxL ret) {z : MethodName} {index : Nat} {bz : ByteArray} {mz : Nat} {rz : Option FieldType} {rm : Room} {asL : List Value} {Qz : Option Value → Heap → Prop}
    (w1 : (Cond.methodLink y.cls index z).before a0 Z = true) (w2 : (Cond.static z).before a0 Z = true) (w3 : (Cond.initialized z.cls).before a0 Z = true) (w4 : (Cond.code z bz mz rz).before a0 Z = true)
    (hz : z.cls ≠ "java/lang/invoke/MethodHandle" ∧ z.cls ≠ "java/lang/invoke/VarHandle") (M : Met W l Z n0 z bz mz rz rm asL.toArray h Qz) {w : Nat} (hf : rm.frames + 1 ≤ R.frames) (hl : w + (mz + 11) + rm.locals ≤ R.locals)
    {ps : List FieldType} {r : Option FieldType} (hlen : parseMethodDescriptor z.desc = some ⟨ps, r⟩) (hps : asL.length = ps.length) {pc : Nat} {Ls : Array Slot} {st rest : List Value} (hls : Ls.size = maxL) (hst : st = asL.reverse ++ rest) (hw : (rest.map fun v => v.category).sum ≤ w)
    (hc : k + rm.cells ≤ R.cells) (hs : n + rm.slots ≤ R.slots) (hd : decode bytes pc = .ok (.invokestatic index, 3))
    (H : ∀ v h', Qz v h' → Wk W p l e R s m args below meth c n0 Q h' (k + rm.cells) (n + rm.slots) (mkF m (pc + 3) Ls (v.toList ++ rest))) : Wk W p l e R s m args below meth c n0 Q h k n (mkF m pc Ls st) := by
  intro T L vm0 X B eT N
  subst hst
  have hZ := C.wZ B
  have ho := C.wo B
  have hw' : 2 * (mkF m pc Ls (asL.reverse ++ rest)).monitorRoom + (rest.map fun v => v.category).sum ≤ w := by show 2 * 0 + _ ≤ _; omega
  cases W
  · obtain ⟨v, vm₁, ⟨T', L', k', n'⟩, -, X', ⟨Lc, hQ, l1, y1, z1⟩, st⟩ := Jvm.LawKit.callS X C.hx ho (mvT hZ w1) (mvT hZ w2) (mvT hZ w3) (mvT hZ w4) hz (backOf (W := w) (Q := fun v h L => Qz v h ∧ Fr n0 L) (M []) hZ w4 w3 hf hl) (g := mkF m pc Ls (asL.reverse ++ rest)) rfl (hls.trans C.hml.symm) (argsL := asL) (rest := rest) (lenOf hlen hps) rfl hw' (hb C.hby hd) (fun _ _ => ⟨rfl, eT, hc, hs⟩)
    dsimp only [Pt.U, Pt.locs, Pt.cells, Pt.slots] at X' l1 y1 z1 st hQ
    subst l1 y1 z1
    obtain ⟨s₂, o, h1, h2⟩ := H v T'.heap hQ.1 T' _ vm0 X' (B : vm0 = s.vm) rfl (N.app hQ.2)
    exact ⟨s₂, o, st _ h1, h2⟩
  · obtain ⟨v, vm₁, ⟨T', L', k', n'⟩, -, X', hS', hgr, ⟨Lc, hQ, l1, y1, z1⟩, st⟩ := callSS X C.hx ho (mvT hZ w1) (mvT hZ w2) (mvT hZ w3) (mvT hZ w4) hz (backOfS (W := w) (Q := fun v h L => Qz v h ∧ Fr n0 L) (M []) hZ w4 w3 hf hl) (g := mkF m pc Ls (asL.reverse ++ rest)) rfl (hls.trans C.hml.symm) (argsL := asL) (rest := rest) (lenOf hlen hps) rfl hw' (hb C.hby hd) (fun _ _ => ⟨rfl, eT, hc, hs⟩)
    dsimp only [Pt.U, Pt.locs, Pt.cells, Pt.slots] at X' hS' hgr l1 y1 z1 st hQ
    subst l1 y1 z1
    obtain ⟨k0, hS, hk0⟩ := (B : ∃ k0, s.Since vm0 k0 ∧ k0 ≤ h.size)
    obtain ⟨s₂, o, h1, h2⟩ := H v T'.heap hQ.1 T' _ T'.vm X' ⟨_, foldS hS (by rw [eT]; exact hk0) hS' hgr, Nat.le_refl _⟩ rfl (N.app hQ.2)
    exact ⟨s₂, o, st.trans h1, h2⟩
theorem Wk.callI (C : Cx Z p s m meth c y bytes maxL ret) {z : MethodName} {index : Nat} {bz : ByteArray} {mz : Nat} {rm : Room} {a : Addr} {asL : List Value} {Qz : Option Value → Heap → Prop} (hz1 : z.name = "<init>")
    (w1 : (Cond.methodLink y.cls index z).before a0 Z = true) (w2 : (Cond.instanceMethod z).before a0 Z = true) (w3 : (Cond.initialized z.cls).before a0 Z = true) (w4 : (Cond.code z bz mz none).before a0 Z = true)
    (hz : z.cls ≠ "java/lang/invoke/MethodHandle" ∧ z.cls ≠ "java/lang/invoke/VarHandle") (M : Met W l Z n0 z bz mz none rm (.ref a :: asL).toArray h Qz) {w : Nat} (hf : rm.frames + 1 ≤ R.frames) (hl : w + (mz + 11) + rm.locals ≤ R.locals)
    {ps : List FieldType} {r : Option FieldType} (hlen : parseMethodDescriptor z.desc = some ⟨ps, r⟩) (hps : asL.length = ps.length) {pc : Nat} {Ls : Array Slot} {st rest : List Value} (hls : Ls.size = maxL) (hst : st = asL.reverse ++ .ref a :: rest) (hw : (rest.map fun v => v.category).sum ≤ w)
    (hc : k + rm.cells ≤ R.cells) (hs : n + rm.slots ≤ R.slots) (hd : decode bytes pc = .ok (.invokespecial index, 3))
    (H : ∀ v h', Qz v h' → Wk W p l e R s m args below meth c n0 Q h' (k + rm.cells) (n + rm.slots) (mkF m (pc + 3) Ls (v.toList ++ rest))) : Wk W p l e R s m args below meth c n0 Q h k n (mkF m pc Ls st) := by
  intro T L vm0 X B eT N
  subst hst
  have hZ := C.wZ B
  have ho := C.wo B
  have hw' : 2 * (mkF m pc Ls (asL.reverse ++ .ref a :: rest)).monitorRoom + (rest.map fun v => v.category).sum ≤ w := by show 2 * 0 + _ ≤ _; omega
  cases W
  · obtain ⟨v, vm₁, ⟨T', L', k', n'⟩, -, X', ⟨Lc, hQ, l1, y1, z1⟩, st⟩ := X.specialBack C.hx hz1 ho (mvT hZ w1) (mvT hZ w2) (mvT hZ w4) hz (backOf (W := w) (Q := fun v h L => Qz v h ∧ Fr n0 L) (M []) hZ w4 w3 hf hl) (g := mkF m pc Ls (asL.reverse ++ .ref a :: rest)) rfl (hls.trans C.hml.symm) (Steps.refl _) (a := a) (argsL := asL) (rest := rest) (lenOf hlen hps) rfl hw' (hb C.hby hd) (fun _ _ => ⟨rfl, eT, hc, hs⟩)
    dsimp only [Pt.U, Pt.locs, Pt.cells, Pt.slots] at X' l1 y1 z1 st hQ
    subst l1 y1 z1
    obtain ⟨s₂, o, h1, h2⟩ := H v T'.heap hQ.1 T' _ vm0 X' (B : vm0 = s.vm) rfl (N.app hQ.2)
    exact ⟨s₂, o, st.trans h1, h2⟩
  · obtain ⟨v, vm₁, ⟨T', L', k', n'⟩, -, X', hS', hgr, ⟨Lc, hQ, l1, y1, z1⟩, st⟩ := X.specialBackS C.hx hz1 ho (mvT hZ w1) (mvT hZ w2) (mvT hZ w4) hz (backOfS (W := w) (Q := fun v h L => Qz v h ∧ Fr n0 L) (M []) hZ w4 w3 hf hl) (g := mkF m pc Ls (asL.reverse ++ .ref a :: rest)) rfl (hls.trans C.hml.symm) (Steps.refl _) (a := a) (argsL := asL) (rest := rest) (lenOf hlen hps) rfl hw' (hb C.hby hd) (fun _ _ => ⟨rfl, eT, hc, hs⟩)
    dsimp only [Pt.U, Pt.locs, Pt.cells, Pt.slots] at X' hS' hgr l1 y1 z1 st hQ
    subst l1 y1 z1
    obtain ⟨k0, hS, hk0⟩ := (B : ∃ k0, s.Since vm0 k0 ∧ k0 ≤ h.size)
    obtain ⟨s₂, o, h1, h2⟩ := H v T'.heap hQ.1 T' _ T'.vm X' ⟨_, foldS hS (by rw [eT]; exact hk0) hS' hgr, Nat.le_refl _⟩ rfl (N.app hQ.2)
    exact ⟨s₂, o, st.trans h1, h2⟩
theorem Wk.callV (C : Cx Z p s m meth c y bytes maxL ret) {x z : MethodName} {K : String} {index : Nat} {bz : ByteArray} {mz : Nat} {rz : Option FieldType} {rm : Room} {a : Addr} {asL : List Value} {Qz : Option Value → Heap → Prop}
    (w1 : (Cond.methodLink y.cls index x).before a0 Z = true) (w2 : (Cond.declares x).before a0 Z = true) (w5 : (Cond.selects K x z).before a0 Z = true) (w6 : (Cond.instanceMethod z).before a0 Z = true) (w3 : (Cond.initialized z.cls).before a0 Z = true) (w4 : (Cond.code z bz mz rz).before a0 Z = true)
    (hz : x.cls ≠ "java/lang/invoke/MethodHandle" ∧ x.cls ≠ "java/lang/invoke/VarHandle") (hnf : ∀ s' : State, Z.Warmed39 s'.vm → NotFace s' x) (E : Exa Z h a K) (M : Met W l Z n0 z bz mz rz rm (.ref a :: asL).toArray h Qz) {w : Nat} (hf : rm.frames + 1 ≤ R.frames) (hl : w + (mz + 11) + rm.locals ≤ R.locals)
    {ps : List FieldType} {r : Option FieldType} (hlen : parseMethodDescriptor x.desc = some ⟨ps, r⟩) (hps : asL.length = ps.length) {pc : Nat} {Ls : Array Slot} {st rest : List Value} (hls : Ls.size = maxL) (hst : st = asL.reverse ++ .ref a :: rest) (hw : (rest.map fun v => v.category).sum ≤ w)
    (hc : k + rm.cells ≤ R.cells) (hs : n + rm.slots ≤ R.slots) (hd : decode bytes pc = .ok (.invokevirtual index, 3))
    (H : ∀ v h', Qz v h' → Wk W p l e R s m args below meth c n0 Q h' (k + rm.cells) (n + rm.slots) (mkF m (pc + 3) Ls (v.toList ++ rest))) : Wk W p l e R s m args below meth c n0 Q h k n (mkF m pc Ls st) := by
  intro T L vm0 X B eT N
  subst hst
  have hZ := C.wZ B
  have ho := C.wo B
  have hw' : 2 * (mkF m pc Ls (asL.reverse ++ .ref a :: rest)).monitorRoom + (rest.map fun v => v.category).sum ≤ w := by show 2 * 0 + _ ≤ _; omega
  obtain ⟨cq, kq, qa, qb, qc⟩ := isOf hZ eT E
  cases W
  · obtain ⟨v, vm₁, ⟨T', L', k', n'⟩, -, X', ⟨Lc, hQ, l1, y1, z1⟩, st⟩ := X.virtualBack C.hx (y := x) (z := z) ho (mvT hZ w1) (mvT hZ w2) (hnf _ hZ) (mvT hZ w5) (mvT hZ w6) hz (backOf (W := w) (Q := fun v h L => Qz v h ∧ Fr n0 L) (M []) hZ w4 w3 hf hl) qa qc (g := mkF m pc Ls (asL.reverse ++ .ref a :: rest)) rfl (hls.trans C.hml.symm) (Steps.refl _) (argsL := asL) (rest := rest) (lenOf hlen hps) rfl hw' (hb C.hby hd) (fun _ _ => ⟨rfl, eT, hc, hs⟩)
    dsimp only [Pt.U, Pt.locs, Pt.cells, Pt.slots] at X' l1 y1 z1 st hQ
    subst l1 y1 z1
    obtain ⟨s₂, o, h1, h2⟩ := H v T'.heap hQ.1 T' _ vm0 X' (B : vm0 = s.vm) rfl (N.app hQ.2)
    exact ⟨s₂, o, st.trans h1, h2⟩
  · obtain ⟨v, vm₁, ⟨T', L', k', n'⟩, -, X', hS', hgr, ⟨Lc, hQ, l1, y1, z1⟩, st⟩ := X.virtualBackS C.hx (y := x) (z := z) ho (mvT hZ w1) (mvT hZ w2) (hnf _ hZ) (mvT hZ w5) (mvT hZ w6) hz (backOfS (W := w) (Q := fun v h L => Qz v h ∧ Fr n0 L) (M []) hZ w4 w3 hf hl) qa qc (g := mkF m pc Ls (asL.reverse ++ .ref a :: rest)) rfl (hls.trans C.hml.symm) (Steps.refl _) (argsL := asL) (rest := rest) (lenOf hlen hps) rfl hw' (hb C.hby hd) (fun _ _ => ⟨rfl, eT, hc, hs⟩)
    dsimp only [Pt.U, Pt.locs, Pt.cells, Pt.slots] at X' hS' hgr l1 y1 z1 st hQ
    subst l1 y1 z1
    obtain ⟨k0, hS, hk0⟩ := (B : ∃ k0, s.Since vm0 k0 ∧ k0 ≤ h.size)
    obtain ⟨s₂, o, h1, h2⟩ := H v T'.heap hQ.1 T' _ T'.vm X' ⟨_, foldS hS (by rw [eT]; exact hk0) hS' hgr, Nat.le_refl _⟩ rfl (N.app hQ.2)
    exact ⟨s₂, o, st.trans h1, h2⟩
theorem Wk.callU (C : Cx Z p s m meth c y bytes maxL ret) {x z : MethodName} {K owner : String} {index : Nat} {bz : ByteArray} {mz : Nat} {rz : Option FieldType} {rm : Room} {a : Addr} {asL : List Value} {Qz : Option Value → Heap → Prop}
    (w1 : (Cond.methodLink y.cls index x).before a0 Z = true) (w7 : (Cond.sameMethod x.cls owner x.name x.desc).before a0 Z = true) (w2 : (Cond.declares ⟨owner, x.name, x.desc⟩).before a0 Z = true) (w5 : (Cond.selects K x z).before a0 Z = true) (w6 : (Cond.instanceMethod z).before a0 Z = true) (w3 : (Cond.initialized z.cls).before a0 Z = true) (w4 : (Cond.code z bz mz rz).before a0 Z = true)
    (hz : owner ≠ "java/lang/invoke/MethodHandle" ∧ owner ≠ "java/lang/invoke/VarHandle") (E : Exa Z h a K) (M : Met W l Z n0 z bz mz rz rm (.ref a :: asL).toArray h Qz) {w : Nat} (hf : rm.frames + 1 ≤ R.frames) (hl : w + (mz + 11) + rm.locals ≤ R.locals)
    {ps : List FieldType} {r : Option FieldType} (hlen : parseMethodDescriptor x.desc = some ⟨ps, r⟩) (hps : asL.length = ps.length) {pc : Nat} {Ls : Array Slot} {st rest : List Value} (hls : Ls.size = maxL) (hst : st = asL.reverse ++ .ref a :: rest) (hw : (rest.map fun v => v.category).sum ≤ w)
    (hc : k + rm.cells ≤ R.cells) (hs : n + rm.slots ≤ R.slots) (hd : decode bytes pc = .ok (.invokevirtual index, 3))
    (H : ∀ v h', Qz v h' → Wk W p l e R s m args below meth c n0 Q h' (k + rm.cells) (n + rm.slots) (mkF m (pc + 3) Ls (v.toList ++ rest))) : Wk W p l e R s m args below meth c n0 Q h k n (mkF m pc Ls st) := by
  intro T L vm0 X B eT N
  subst hst
  have hZ := C.wZ B
  have ho := C.wo B
  have hw' : 2 * (mkF m pc Ls (asL.reverse ++ .ref a :: rest)).monitorRoom + (rest.map fun v => v.category).sum ≤ w := by show 2 * 0 + _ ≤ _; omega
  obtain ⟨cq, kq, qa, qb, qc⟩ := isOf hZ eT E
  cases W
  · obtain ⟨v, vm₁, ⟨T', L', k', n'⟩, -, X', ⟨Lc, hQ, l1, y1, z1⟩, st⟩ := X.virtualBackUp C.hx (x := x) (y := z) ho (mvT hZ w1) (mvT hZ w7) (mvT hZ w2) hz (mvT hZ w5) (mvT hZ w6) (backOf (W := w) (Q := fun v h L => Qz v h ∧ Fr n0 L) (M []) hZ w4 w3 hf hl) qa qc (g := mkF m pc Ls (asL.reverse ++ .ref a :: rest)) rfl (hls.trans C.hml.symm) (Steps.refl _) (argsL := asL) (rest := rest) (lenOf hlen hps) rfl hw' (hb C.hby hd) (fun _ _ => ⟨rfl, eT, hc, hs⟩)
    dsimp only [Pt.U, Pt.locs, Pt.cells, Pt.slots] at X' l1 y1 z1 st hQ
    subst l1 y1 z1
    obtain ⟨s₂, o, h1, h2⟩ := H v T'.heap hQ.1 T' _ vm0 X' (B : vm0 = s.vm) rfl (N.app hQ.2)
    exact ⟨s₂, o, st.trans h1, h2⟩
  · obtain ⟨v, vm₁, ⟨T', L', k', n'⟩, -, X', hS', hgr, ⟨Lc, hQ, l1, y1, z1⟩, st⟩ := X.virtualBackUpS C.hx (x := x) (y := z) ho (mvT hZ w1) (mvT hZ w7) (mvT hZ w2) hz (mvT hZ w5) (mvT hZ w6) (backOfS (W := w) (Q := fun v h L => Qz v h ∧ Fr n0 L) (M []) hZ w4 w3 hf hl) qa qc (g := mkF m pc Ls (asL.reverse ++ .ref a :: rest)) rfl (hls.trans C.hml.symm) (Steps.refl _) (argsL := asL) (rest := rest) (lenOf hlen hps) rfl hw' (hb C.hby hd) (fun _ _ => ⟨rfl, eT, hc, hs⟩)
    dsimp only [Pt.U, Pt.locs, Pt.cells, Pt.slots] at X' hS' hgr l1 y1 z1 st hQ
    subst l1 y1 z1
    obtain ⟨k0, hS, hk0⟩ := (B : ∃ k0, s.Since vm0 k0 ∧ k0 ≤ h.size)
    obtain ⟨s₂, o, h1, h2⟩ := H v T'.heap hQ.1 T' _ T'.vm X' ⟨_, foldS hS (by rw [eT]; exact hk0) hS' hgr, Nat.le_refl _⟩ rfl (N.app hQ.2)
    exact ⟨s₂, o, st.trans h1, h2⟩
theorem Wk.ldcS (C : Cx Z p s m meth c y bytes maxL ret) {index : Nat} {text : String} (w : (Cond.stringLink y.cls index text).before a0 Z = true) (wS : ∀ d ∈ Bundle.stringAtoms, d.before a0 Z = true) {N : Nat} (hn : 4 * text.toList.length ≤ N) (hbig : N ≤ 536870912) {pc : Nat} {Ls : Array Slot} {st : List Value} (hd : decode bytes pc = .ok (.ldc index, 2)) (hc : k + 2 ≤ R.cells) (hl : n + (N + 4) ≤ R.slots)
    (H : ∀ h' a, Ext h h' → Wk true p l e R s m args below meth c n0 Q h' (k + 2) (n + (N + 4)) (mkF m (pc + 2) Ls (.ref a :: st))) : Wk true p l e R s m args below meth c n0 Q h k n (mkF m pc Ls st) := by
  intro T L vm0 X B eT N'
  have hZ := C.wZ B
  have ho := C.wo B
  obtain ⟨k0, hS, hk0⟩ := (B : ∃ k0, s.Since vm0 k0 ∧ k0 ≤ h.size)
  obtain ⟨a, T', h', k1, X', e', E, hS', hk1, -, -, st⟩ := Jvm.RoadKit.ldcS X C.hx hZ ho w wS eT hS hk0 (g := mkF m pc Ls st) rfl (hb C.hby hd) hn hbig hc hl
  obtain ⟨s₂, o, h1, h2⟩ := H h' a E T' L T'.vm X' ⟨k1, hS', hk1⟩ e' N'
  exact ⟨s₂, o, st _ h1, h2⟩
end Rules
theorem ext_trans {h h' h'' : Heap} (E : Ext h h') (E' : Ext h' h'') : Ext h h'' := ⟨Nat.le_trans E.1 E'.1, fun a c q => E'.2 a c (E.2 a c q)⟩
theorem ext_refl (h : Heap) : Ext h h := ⟨Nat.le_refl _, fun _ _ q => q⟩
end Jvm.Own
namespace Jvm.Own
open Jvm Jvm.ClassFile Sem Op Lib Jvm.Free Jvm.Stand Jvm.LawKit Jvm.RoadKit
/-! statics that hold objects, told apart by a field -/
theorem stat_exa {args : Array Value} {s : State} {C n d K : String} (wi : (Cond.initialized C).before args s = true) (wl : (Cond.laysStatic C n d).before args s = true) (hx : (Cond.exactly (Term.static C n d) K).value args s none s [] = some true) :
    ∃ a, (Term.static C n d).eval args s none [] s = some (.ref a) ∧ Sta s s.heap C n d (.ref a) ∧ Exa s s.heap a K := by
  obtain ⟨a, ev⟩ := exa_v hx
  exact ⟨a, ev, Sta.start ev (Or.inr ⟨wi, wl⟩), Exa.start ev hx⟩
theorem fld_int {args : Array Value} {s : State} {t : Term} {a : Addr} {O f d : String} {i : Int32} (ev : t.eval args s none [] s = some (.ref a)) (hq : (Cond.eq (Term.field t O f d) (Term.int i)).value args s none s [] = some true) : Fld s s.heap a O f d (.int i) := by
  refine Fld.start ?_
  obtain ⟨x, y, h1, h2, k1, k2⟩ := cmp_v (Or.inl hq)
  cases (show some (Value.int i) = some y from h2)
  obtain ⟨z, rfl⟩ := k2
  have q := gotT (show (Cond.eq (Term.field t O f d) (Term.int i)).value args s none s [] = some (decide (z = i)) by simp [Cond.value, h1, h2]) hq
  subst q
  rw [fld_at ev] at h1; exact h1
theorem fld_uniq {Z : State} {h : Heap} {a : Addr} {O f d : String} {v w : Value} (F : Fld Z h a O f d v) (G : Fld Z h a O f d w) : v = w := by
  obtain ⟨c1, cf, k, i, fd, h1, h2, -, -, -, -, h7⟩ := F
  obtain ⟨c2, cf', k', i', fd', g1, g2, -, -, -, -, g7⟩ := G
  cases h1.symm.trans g1
  cases h2.symm.trans g2
  exact Option.some.inj (h7.symm.trans g7)
theorem ne_fld {Z : State} {h : Heap} {a b : Addr} {O f d : String} {v w : Value} (F : Fld Z h a O f d v) (G : Fld Z h b O f d w) (q : v ≠ w) : a ≠ b := fun e => by
  subst e; exact q (fld_uniq F G)
theorem mod_range (p k : Int32) (d : Int) (hd : k.toInt = d) (h0 : 0 < d) : 0 ≤ ((p &&& 2147483647) % k).toInt ∧ ((p &&& 2147483647) % k).toInt < d := by
  have h1 := (c_andS p 2147483647).2.2 (by decide)
  have h2 := (c_irem (p &&& 2147483647) k d hd).1 h1
  rw [h2]
  exact ⟨Int.emod_nonneg _ (by omega), Int.emod_lt_of_pos _ h0⟩
theorem mod6 (p : Int32) : (p &&& 2147483647) % 6 = 0 ∨ (p &&& 2147483647) % 6 = 1 ∨ (p &&& 2147483647) % 6 = 2 ∨ (p &&& 2147483647) % 6 = 3 ∨ (p &&& 2147483647) % 6 = 4 ∨ (p &&& 2147483647) % 6 = 5 := by
  have h := mod_range p 6 6 (by decide) (by decide)
  generalize (p &&& 2147483647) % 6 = r at h ⊢
  have q : r.toInt = 0 ∨ r.toInt = 1 ∨ r.toInt = 2 ∨ r.toInt = 3 ∨ r.toInt = 4 ∨ r.toInt = 5 := by omega
  rcases q with q | q | q | q | q | q
  · exact Or.inl (Int32.toInt_inj.mp q)
  · exact Or.inr (Or.inl (Int32.toInt_inj.mp q))
  · exact Or.inr (Or.inr (Or.inl (Int32.toInt_inj.mp q)))
  · exact Or.inr (Or.inr (Or.inr (Or.inl (Int32.toInt_inj.mp q))))
  · exact Or.inr (Or.inr (Or.inr (Or.inr (Or.inl (Int32.toInt_inj.mp q)))))
  · exact Or.inr (Or.inr (Or.inr (Or.inr (Or.inr (Int32.toInt_inj.mp q)))))
theorem mod3 (p : Int32) : (p &&& 2147483647) % 3 = 0 ∨ (p &&& 2147483647) % 3 = 1 ∨ (p &&& 2147483647) % 3 = 2 := by
  have h := mod_range p 3 3 (by decide) (by decide)
  generalize (p &&& 2147483647) % 3 = r at h ⊢
  have q : r.toInt = 0 ∨ r.toInt = 1 ∨ r.toInt = 2 := by omega
  rcases q with q | q | q
  · exact Or.inl (Int32.toInt_inj.mp q)
  · exact Or.inr (Or.inl (Int32.toInt_inj.mp q))
  · exact Or.inr (Or.inr (Int32.toInt_inj.mp q))
end Jvm.Own
namespace Jvm.Own
open Jvm Jvm.ClassFile Sem Op Lib Jvm.Free Jvm.Stand Jvm.LawKit Jvm.RoadKit
/-! an array by what it holds at each place -/
def up {α : Type} (f : Nat → α) (i : Nat) (v : α) : Nat → α := fun k => if k = i then v else f k
theorem up_eq {α : Type} {f : Nat → α} {i k : Nat} {v : α} (q : k = i) : up f i v k = v := by simp [up, q]
theorem up_ne {α : Type} {f : Nat → α} {i k : Nat} {v : α} (q : k ≠ i) : up f i v k = f k := by simp [up, q]
def Fa (Z : State) (h : Heap) (a : Addr) (ty : FieldType) (n : Nat) (f : Nat → Value) : Prop :=
  ∃ c : Cell, Arr Z h a c ty ∧ c.slots.size = n ∧ n < 2 ^ 31 ∧ ∀ i, i < n → c.slots[i]? = some (f i)
/-- .. of objects of the class K -/
def FaO (Z : State) (h : Heap) (a : Addr) (K : String) (n : Nat) (f : Nat → Value) : Prop :=
  ∃ c : Cell, Arr Z h a c (.object K) ∧ Ovr Z c.cls K ∧ c.slots.size = n ∧ n < 2 ^ 31 ∧ ∀ i, i < n → c.slots[i]? = some (f i)
/-- .. of arrays, whose class is named K -/
def FaA (Z : State) (h : Heap) (a : Addr) (ty : FieldType) (K : String) (n : Nat) (f : Nat → Value) : Prop :=
  ∃ c : Cell, Arr Z h a c (.array ty) ∧ OvrA Z c.cls ty K ∧ c.slots.size = n ∧ n < 2 ^ 31 ∧ ∀ i, i < n → c.slots[i]? = some (f i)
section Facts
variable {Z : State} {h h' : Heap} {a b : Addr} {ty : FieldType} {K : String} {n : Nat} {f g : Nat → Value} {sl : Nat} {v : Value} {ws : List Addr}
theorem inb {c : Cell} {j : Int32} (S : c.slots.size = n) (h0 : ¬ j < 0) (hi : j.toNatClampNeg < n) : ¬ (j < 0 ∨ c.slots.size ≤ j.toNatClampNeg) := by
  rintro (q | q)
  · exact h0 q
  · omega
theorem set_at {c : Cell} (S : c.slots.size = n) (H : ∀ i, i < n → c.slots[i]? = some (f i)) (hs : sl < n) : ∀ i, i < n → (c.setSlot sl v).slots[i]? = some (up f sl v i) := fun i hi => by
  by_cases q : i = sl
  · subst q; rw [up_eq rfl]; simp [Cell.setSlot, S, hi]
  · rw [up_ne q, ← H i hi]; exact Array.getElem?_setIfInBounds_ne (Ne.symm q)
theorem new_at {cA : ClassId} {z : Int32} : ∀ i, i < z.toNatClampNeg → (newA cA ty z).slots[i]? = some (defaultValue ty) := fun i hi => by simp [newA, hi]
theorem clamp_lt (z : Int32) : z.toNatClampNeg < 2 ^ 31 := by
  have := Int32.toInt_lt z; simp only [Int32.toNatClampNeg]; omega
theorem Fa.lt (F : Fa Z h a ty n f) : a < h.size := by obtain ⟨c, A, -⟩ := F; exact A.lt
theorem Fa.ext (F : Fa Z h a ty n f) (E : Ext h h') : Fa Z h' a ty n f := by obtain ⟨c, A, r⟩ := F; exact ⟨c, A.ext E, r⟩
theorem Fa.other (F : Fa Z h b ty n f) (W : Wr h h' a sl v) (q : b ≠ a) : Fa Z h' b ty n f := by obtain ⟨c, A, r⟩ := F; exact ⟨c, A.other W q, r⟩
theorem Fa.keep (F : Fa Z h a ty n f) (K : Keep h h' ws) (q : a ∉ ws) : Fa Z h' a ty n f := by obtain ⟨c, A, r⟩ := F; exact ⟨c, ⟨K.2.1 a c A.1 q, A.2⟩, r⟩
theorem Fa.set (F : Fa Z h a ty n f) (W : Wr h h' a sl v) (hs : sl < n) : Fa Z h' a ty n (up f sl v) := by
  obtain ⟨c, A, S, N, H⟩ := F; exact ⟨_, A.same W, (sz_set _ _ _).trans S, N, set_at S H hs⟩
theorem Fa.new {cA : ClassId} {z : Int32} (A : Arr Z h a (newA cA ty z) ty) : Fa Z h a ty z.toNatClampNeg (fun _ => defaultValue ty) := ⟨_, A, sz_new _ _ _, clamp_lt z, new_at⟩
theorem Fa.congr (F : Fa Z h a ty n f) (q : ∀ i, i < n → f i = g i) : Fa Z h a ty n g := by obtain ⟨c, A, S, N, H⟩ := F; exact ⟨c, A, S, N, fun i hi => (H i hi).trans (congrArg some (q i hi))⟩
theorem FaO.lt (F : FaO Z h a K n f) : a < h.size := by obtain ⟨c, A, -⟩ := F; exact A.lt
theorem FaO.ext (F : FaO Z h a K n f) (E : Ext h h') : FaO Z h' a K n f := by obtain ⟨c, A, r⟩ := F; exact ⟨c, A.ext E, r⟩
theorem FaO.other (F : FaO Z h b K n f) (W : Wr h h' a sl v) (q : b ≠ a) : FaO Z h' b K n f := by obtain ⟨c, A, r⟩ := F; exact ⟨c, A.other W q, r⟩
theorem FaO.set (F : FaO Z h a K n f) (W : Wr h h' a sl v) (hs : sl < n) : FaO Z h' a K n (up f sl v) := by
  obtain ⟨c, A, O, S, N, H⟩ := F; exact ⟨_, A.same W, O, (sz_set _ _ _).trans S, N, set_at S H hs⟩
theorem FaO.new {cA : ClassId} {z : Int32} (A : Arr Z h a (newA cA (.object K) z) (.object K)) (O : Ovr Z cA K) : FaO Z h a K z.toNatClampNeg (fun _ => .null) := ⟨_, A, O, sz_new _ _ _, clamp_lt z, new_at⟩
theorem FaO.sto (F : FaO Z h a K n f) {y : Addr} (E : Exa Z h y K) : Sto Z h a (.ref y) := by obtain ⟨c, A, O, -⟩ := F; exact Sto.of A O (Ins.self E)
theorem FaA.lt (F : FaA Z h a ty K n f) : a < h.size := by obtain ⟨c, A, -⟩ := F; exact A.lt
theorem FaA.ext (F : FaA Z h a ty K n f) (E : Ext h h') : FaA Z h' a ty K n f := by obtain ⟨c, A, r⟩ := F; exact ⟨c, A.ext E, r⟩
theorem FaA.other (F : FaA Z h b ty K n f) (W : Wr h h' a sl v) (q : b ≠ a) : FaA Z h' b ty K n f := by obtain ⟨c, A, r⟩ := F; exact ⟨c, A.other W q, r⟩
theorem FaA.keep (F : FaA Z h a ty K n f) (Kp : Keep h h' ws) (q : a ∉ ws) : FaA Z h' a ty K n f := by obtain ⟨c, A, r⟩ := F; exact ⟨c, ⟨Kp.2.1 a c A.1 q, A.2⟩, r⟩
theorem FaA.set (F : FaA Z h a ty K n f) (W : Wr h h' a sl v) (hs : sl < n) : FaA Z h' a ty K n (up f sl v) := by
  obtain ⟨c, A, O, S, N, H⟩ := F; exact ⟨_, A.same W, O, (sz_set _ _ _).trans S, N, set_at S H hs⟩
theorem FaA.new {cA : ClassId} {z : Int32} (A : Arr Z h a (newA cA (.array ty) z) (.array ty)) (O : OvrA Z cA ty K) : FaA Z h a ty K z.toNatClampNeg (fun _ => .null) := ⟨_, A, O, sz_new _ _ _, clamp_lt z, new_at⟩
end Facts
section Rules
variable {W : Bool} {Z : State} {p : Program} {l : Launch} {e : Env} {R : Room} {s : State} {m : MethodId} {args : Array Value} {below : List Frame} {meth : Method} {c : Code} {y : MethodName} {bytes : ByteArray} {maxL : Nat} {ret : Option FieldType} {n0 : Nat} {Q : Option Value → Heap → Prop} {h : Heap} {k n : Nat} {a0 : Array Value}
variable {a : Addr} {ty : FieldType} {K : String} {N : Nat} {f : Nat → Value} {j : Int32} {v : Value} {pc : Nat} {Ls : Array Slot} {st : List Value}
theorem Wk.fLen (C : Cx Z p s m meth c y bytes maxL ret) (F : Fa Z h a ty N f) {z : Int32} (hz : N.toInt32 = z) (hd : decode bytes pc = .ok (.arraylength, 1))
    (H : Wk W p l e R s m args below meth c n0 Q h k n (mkF m (pc + 1) Ls (.int z :: st))) : Wk W p l e R s m args below meth c n0 Q h k n (mkF m pc Ls (.ref a :: st)) := by
  obtain ⟨cl, A, S, -⟩ := F; exact Wk.len C A hd (by rw [S, hz]; exact H)
theorem Wk.fLenA (C : Cx Z p s m meth c y bytes maxL ret) (F : FaA Z h a ty K N f) {z : Int32} (hz : N.toInt32 = z) (hd : decode bytes pc = .ok (.arraylength, 1))
    (H : Wk W p l e R s m args below meth c n0 Q h k n (mkF m (pc + 1) Ls (.int z :: st))) : Wk W p l e R s m args below meth c n0 Q h k n (mkF m pc Ls (.ref a :: st)) := by
  obtain ⟨cl, A, -, S, -⟩ := F; exact Wk.len C A hd (by rw [S, hz]; exact H)
theorem Wk.fLdI (C : Cx Z p s m meth c y bytes maxL ret) (F : Fa Z h a .int N f) {i : Nat} (hj : j.toNatClampNeg = i) (h0 : ¬ j < 0) (hi : i < N) (hv : f i = v) (hd : decode bytes pc = .ok (.iaload, 1))
    (H : Wk W p l e R s m args below meth c n0 Q h k n (mkF m (pc + 1) Ls (v :: st))) : Wk W p l e R s m args below meth c n0 Q h k n (mkF m pc Ls (.int j :: .ref a :: st)) := by
  subst hj
  obtain ⟨cl, A, S, -, Hs⟩ := F; exact Wk.ldI C A (inb S h0 hi) (hv ▸ Hs _ hi) hd H
theorem Wk.fLdJ (C : Cx Z p s m meth c y bytes maxL ret) (F : Fa Z h a .long N f) {i : Nat} (hj : j.toNatClampNeg = i) (h0 : ¬ j < 0) (hi : i < N) (hv : f i = v) (hd : decode bytes pc = .ok (.laload, 1))
    (H : Wk W p l e R s m args below meth c n0 Q h k n (mkF m (pc + 1) Ls (v :: st))) : Wk W p l e R s m args below meth c n0 Q h k n (mkF m pc Ls (.int j :: .ref a :: st)) := by
  subst hj
  obtain ⟨cl, A, S, -, Hs⟩ := F; exact Wk.ldJ C A (inb S h0 hi) (hv ▸ Hs _ hi) hd H
theorem Wk.fLdD (C : Cx Z p s m meth c y bytes maxL ret) (F : Fa Z h a .double N f) {i : Nat} (hj : j.toNatClampNeg = i) (h0 : ¬ j < 0) (hi : i < N) (hv : f i = v) (hd : decode bytes pc = .ok (.daload, 1))
    (H : Wk W p l e R s m args below meth c n0 Q h k n (mkF m (pc + 1) Ls (v :: st))) : Wk W p l e R s m args below meth c n0 Q h k n (mkF m pc Ls (.int j :: .ref a :: st)) := by
  subst hj
  obtain ⟨cl, A, S, -, Hs⟩ := F; exact Wk.ldD C A (inb S h0 hi) (hv ▸ Hs _ hi) hd H
theorem Wk.fLdZ (C : Cx Z p s m meth c y bytes maxL ret) (F : Fa Z h a .boolean N f) {i : Nat} (hj : j.toNatClampNeg = i) (h0 : ¬ j < 0) (hi : i < N) (hv : f i = v) (hd : decode bytes pc = .ok (.baload, 1))
    (H : Wk W p l e R s m args below meth c n0 Q h k n (mkF m (pc + 1) Ls (v :: st))) : Wk W p l e R s m args below meth c n0 Q h k n (mkF m pc Ls (.int j :: .ref a :: st)) := by
  subst hj
  obtain ⟨cl, A, S, -, Hs⟩ := F; exact Wk.ldZ C A (inb S h0 hi) (hv ▸ Hs _ hi) hd H
theorem Wk.fLdC (C : Cx Z p s m meth c y bytes maxL ret) (F : Fa Z h a .char N f) {i : Nat} (hj : j.toNatClampNeg = i) (h0 : ¬ j < 0) (hi : i < N) (hv : f i = v) (hd : decode bytes pc = .ok (.caload, 1))
    (H : Wk W p l e R s m args below meth c n0 Q h k n (mkF m (pc + 1) Ls (v :: st))) : Wk W p l e R s m args below meth c n0 Q h k n (mkF m pc Ls (.int j :: .ref a :: st)) := by
  subst hj
  obtain ⟨cl, A, S, -, Hs⟩ := F; exact Wk.ldC C A (inb S h0 hi) (hv ▸ Hs _ hi) hd H
theorem Wk.fLdB (C : Cx Z p s m meth c y bytes maxL ret) (F : Fa Z h a .byte N f) {i : Nat} (hj : j.toNatClampNeg = i) (h0 : ¬ j < 0) (hi : i < N) (hv : f i = v) (hd : decode bytes pc = .ok (.baload, 1))
    (H : Wk W p l e R s m args below meth c n0 Q h k n (mkF m (pc + 1) Ls (v :: st))) : Wk W p l e R s m args below meth c n0 Q h k n (mkF m pc Ls (.int j :: .ref a :: st)) := by
  subst hj
  obtain ⟨cl, A, S, -, Hs⟩ := F; exact Wk.ldB C A (inb S h0 hi) (hv ▸ Hs _ hi) hd H
theorem Wk.fLdO (C : Cx Z p s m meth c y bytes maxL ret) (F : FaO Z h a K N f) {i : Nat} (hj : j.toNatClampNeg = i) (h0 : ¬ j < 0) (hi : i < N) (hv : f i = v) (hd : decode bytes pc = .ok (.aaload, 1))
    (H : Wk W p l e R s m args below meth c n0 Q h k n (mkF m (pc + 1) Ls (v :: st))) : Wk W p l e R s m args below meth c n0 Q h k n (mkF m pc Ls (.int j :: .ref a :: st)) := by
  subst hj
  obtain ⟨cl, A, -, S, -, Hs⟩ := F; exact Wk.ldR C A rfl (inb S h0 hi) (hv ▸ Hs _ hi) hd H
theorem Wk.fLdA (C : Cx Z p s m meth c y bytes maxL ret) (F : FaA Z h a ty K N f) {i : Nat} (hj : j.toNatClampNeg = i) (h0 : ¬ j < 0) (hi : i < N) (hv : f i = v) (hd : decode bytes pc = .ok (.aaload, 1))
    (H : Wk W p l e R s m args below meth c n0 Q h k n (mkF m (pc + 1) Ls (v :: st))) : Wk W p l e R s m args below meth c n0 Q h k n (mkF m pc Ls (.int j :: .ref a :: st)) := by
  subst hj
  obtain ⟨cl, A, -, S, -, Hs⟩ := F; exact Wk.ldR C A rfl (inb S h0 hi) (hv ▸ Hs _ hi) hd H
theorem Wk.fStI (C : Cx Z p s m meth c y bytes maxL ret) (F : Fa Z h a .int N f) {x : Int32} {i : Nat} (hj : j.toNatClampNeg = i) (h0 : ¬ j < 0) (hi : i < N) (ge : n0 ≤ a) (hd : decode bytes pc = .ok (.iastore, 1))
    (H : ∀ h', Wr h h' a i (.int x) → Fa Z h' a .int N (up f i (.int x)) → Wk W p l e R s m args below meth c n0 Q h' k n (mkF m (pc + 1) Ls st)) : Wk W p l e R s m args below meth c n0 Q h k n (mkF m pc Ls (.int x :: .int j :: .ref a :: st)) := by
  subst hj
  obtain ⟨cl, A, S, r⟩ := id F; exact Wk.stI C A (inb S h0 hi) ge hd fun h' Wh => H h' Wh (F.set Wh hi)
theorem Wk.fStJ (C : Cx Z p s m meth c y bytes maxL ret) (F : Fa Z h a .long N f) {x : Int64} {i : Nat} (hj : j.toNatClampNeg = i) (h0 : ¬ j < 0) (hi : i < N) (ge : n0 ≤ a) (hd : decode bytes pc = .ok (.lastore, 1))
    (H : ∀ h', Wr h h' a i (.long x) → Fa Z h' a .long N (up f i (.long x)) → Wk W p l e R s m args below meth c n0 Q h' k n (mkF m (pc + 1) Ls st)) : Wk W p l e R s m args below meth c n0 Q h k n (mkF m pc Ls (.long x :: .int j :: .ref a :: st)) := by
  subst hj
  obtain ⟨cl, A, S, r⟩ := id F; exact Wk.stJ C A (inb S h0 hi) ge hd fun h' Wh => H h' Wh (F.set Wh hi)
theorem Wk.fStD (C : Cx Z p s m meth c y bytes maxL ret) (F : Fa Z h a .double N f) {x : UInt64} {i : Nat} (hj : j.toNatClampNeg = i) (h0 : ¬ j < 0) (hi : i < N) (ge : n0 ≤ a) (hd : decode bytes pc = .ok (.dastore, 1))
    (H : ∀ h', Wr h h' a i (.double x) → Fa Z h' a .double N (up f i (.double x)) → Wk W p l e R s m args below meth c n0 Q h' k n (mkF m (pc + 1) Ls st)) : Wk W p l e R s m args below meth c n0 Q h k n (mkF m pc Ls (.double x :: .int j :: .ref a :: st)) := by
  subst hj
  obtain ⟨cl, A, S, r⟩ := id F; exact Wk.stD C A (inb S h0 hi) ge hd fun h' Wh => H h' Wh (F.set Wh hi)
theorem Wk.fStZ (C : Cx Z p s m meth c y bytes maxL ret) (F : Fa Z h a .boolean N f) {x x' : Int32} (hx : nar .boolean x = x') {i : Nat} (hj : j.toNatClampNeg = i) (h0 : ¬ j < 0) (hi : i < N) (ge : n0 ≤ a) (hd : decode bytes pc = .ok (.bastore, 1))
    (H : ∀ h', Wr h h' a i (.int x') → Fa Z h' a .boolean N (up f i (.int x')) → Wk W p l e R s m args below meth c n0 Q h' k n (mkF m (pc + 1) Ls st)) : Wk W p l e R s m args below meth c n0 Q h k n (mkF m pc Ls (.int x :: .int j :: .ref a :: st)) := by
  subst hx
  subst hj
  obtain ⟨cl, A, S, r⟩ := id F; exact Wk.stZb C A (inb S h0 hi) ge hd fun h' Wh => H h' Wh (F.set Wh hi)
theorem Wk.fStB (C : Cx Z p s m meth c y bytes maxL ret) (F : Fa Z h a .byte N f) {x x' : Int32} (hx : nar .byte x = x') {i : Nat} (hj : j.toNatClampNeg = i) (h0 : ¬ j < 0) (hi : i < N) (ge : n0 ≤ a) (hd : decode bytes pc = .ok (.bastore, 1))
    (H : ∀ h', Wr h h' a i (.int x') → Fa Z h' a .byte N (up f i (.int x')) → Wk W p l e R s m args below meth c n0 Q h' k n (mkF m (pc + 1) Ls st)) : Wk W p l e R s m args below meth c n0 Q h k n (mkF m pc Ls (.int x :: .int j :: .ref a :: st)) := by
  subst hx
  subst hj
  obtain ⟨cl, A, S, r⟩ := id F; exact Wk.stB C A (inb S h0 hi) ge hd fun h' Wh => H h' Wh (F.set Wh hi)
theorem Wk.fStC (C : Cx Z p s m meth c y bytes maxL ret) (F : Fa Z h a .char N f) {x x' : Int32} (hx : nar .char x = x') {i : Nat} (hj : j.toNatClampNeg = i) (h0 : ¬ j < 0) (hi : i < N) (ge : n0 ≤ a) (hd : decode bytes pc = .ok (.castore, 1))
    (H : ∀ h', Wr h h' a i (.int x') → Fa Z h' a .char N (up f i (.int x')) → Wk W p l e R s m args below meth c n0 Q h' k n (mkF m (pc + 1) Ls st)) : Wk W p l e R s m args below meth c n0 Q h k n (mkF m pc Ls (.int x :: .int j :: .ref a :: st)) := by
  subst hx
  subst hj
  obtain ⟨cl, A, S, r⟩ := id F; exact Wk.stC C A (inb S h0 hi) ge hd fun h' Wh => H h' Wh (F.set Wh hi)
theorem Wk.fStO (C : Cx Z p s m meth c y bytes maxL ret) (F : FaO Z h a K N f) {i : Nat} (hj : j.toNatClampNeg = i) (h0 : ¬ j < 0) (hi : i < N) (So : Sto Z h a v) (ge : n0 ≤ a) (hd : decode bytes pc = .ok (.aastore, 1))
    (H : ∀ h', Wr h h' a i v → FaO Z h' a K N (up f i v) → Wk W p l e R s m args below meth c n0 Q h' k n (mkF m (pc + 1) Ls st)) : Wk W p l e R s m args below meth c n0 Q h k n (mkF m pc Ls (v :: .int j :: .ref a :: st)) := by
  subst hj
  obtain ⟨cl, A, O, S, r⟩ := id F; exact Wk.stR C A (inb S h0 hi) rfl So ge hd fun h' Wh => H h' Wh (F.set Wh hi)
theorem Wk.fStA (C : Cx Z p s m meth c y bytes maxL ret) (F : FaA Z h a ty K N f) {i : Nat} (hj : j.toNatClampNeg = i) (h0 : ¬ j < 0) (hi : i < N) (So : Sto Z h a v) (ge : n0 ≤ a) (hd : decode bytes pc = .ok (.aastore, 1))
    (H : ∀ h', Wr h h' a i v → FaA Z h' a ty K N (up f i v) → Wk W p l e R s m args below meth c n0 Q h' k n (mkF m (pc + 1) Ls st)) : Wk W p l e R s m args below meth c n0 Q h k n (mkF m pc Ls (v :: .int j :: .ref a :: st)) := by
  subst hj
  obtain ⟨cl, A, O, S, r⟩ := id F; exact Wk.stR C A (inb S h0 hi) rfl So ge hd fun h' Wh => H h' Wh (F.set Wh hi)
theorem Wk.fNewP (C : Cx Z p s m meth c y bytes maxL ret) {aty : ArrayType} (w : (Cond.arrayClass (newarray.typeOf aty)).before a0 Z = true) {z : Int32} {dv : Value} {ad : String} (hty : newarray.typeOf aty = ty) (hdv : defaultValue ty = dv) (hN : z.toNatClampNeg = N) (had : "[" ++ (newarray.typeOf aty).toString = ad) (hz : ¬ z < 0) {cap : Nat} (hcap : N ≤ cap) (hbig : cap * 8 ≤ 536870912) (hd : decode bytes pc = .ok (.newarray aty, 2)) (hc : k + 1 ≤ R.cells) (hl : n + cap ≤ R.slots)
    (H : ∀ h' a, a = h.size → Ext h h' → Exa Z h' a ad → Fa Z h' a ty N (fun _ => dv) → Wk W p l e R s m args below meth c n0 Q h' (k + 1) (n + cap) (mkF m (pc + 2) Ls (.ref a :: st))) :
    Wk W p l e R s m args below meth c n0 Q h k n (mkF m pc Ls (.int z :: st)) := by
  intro T L vm0 X B eT Nn
  subst hty hdv hN
  obtain ⟨T', h', cA, X', e', E, A, Ex, st⟩ := Jvm.RoadKit.newPE X C.hx (C.wZ B) w eT (g := mkF m pc Ls (.int z :: st)) rfl (hb C.hby hd) rfl hz hcap hbig hc hl had
  obtain ⟨s₂, o, h1, h2⟩ := H h' _ rfl E Ex (Fa.new A) T' L vm0 X' (B.mono E.1) e' Nn
  exact ⟨s₂, o, st _ h1, h2⟩
theorem Wk.fNewA (C : Cx Z p s m meth c y bytes maxL ret) {index : Nat} {z : Int32} {ad : String} (hK : (FieldType.array ty).toString = K) (w1 : (Cond.classLink y.cls index K).before a0 Z = true) (w2 : (Cond.arrayOver (.array ty)).before a0 Z = true) (hN : z.toNatClampNeg = N) (had : "[" ++ K = ad) (hz : ¬ z < 0) {cap : Nat} (hcap : N ≤ cap) (hbig : cap * 8 ≤ 536870912) (hd : decode bytes pc = .ok (.anewarray index, 3)) (hc : k + 1 ≤ R.cells) (hl : n + cap ≤ R.slots)
    (H : ∀ h' a, a = h.size → Ext h h' → Exa Z h' a ad → FaA Z h' a ty K N (fun _ => .null) → Wk W p l e R s m args below meth c n0 Q h' (k + 1) (n + cap) (mkF m (pc + 3) Ls (.ref a :: st))) :
    Wk W p l e R s m args below meth c n0 Q h k n (mkF m pc Ls (.int z :: st)) := by
  intro T L vm0 X B eT Nn
  subst hN
  obtain ⟨T', h', cA, X', e', E, A, Ex, O, st⟩ := Jvm.RoadKit.newRA X C.hx (C.wZ B) (C.wo B) hK w1 w2 eT (g := mkF m pc Ls (.int z :: st)) rfl (hb C.hby hd) rfl hz hcap hbig hc hl had
  obtain ⟨s₂, o, h1, h2⟩ := H h' _ rfl E Ex (FaA.new A O) T' L vm0 X' (B.mono E.1) e' Nn
  exact ⟨s₂, o, st _ h1, h2⟩
theorem Wk.fNewO (C : Cx Z p s m meth c y bytes maxL ret) {index : Nat} {z : Int32} (w1 : (Cond.classLink y.cls index K).before a0 Z = true) (w2 : (Cond.arrayOver (.object K)).before a0 Z = true) (hN : z.toNatClampNeg = N) (hz : ¬ z < 0) {cap : Nat} (hcap : N ≤ cap) (hbig : cap * 8 ≤ 536870912) (hd : decode bytes pc = .ok (.anewarray index, 3)) (hc : k + 1 ≤ R.cells) (hl : n + cap ≤ R.slots)
    (H : ∀ h' a, a = h.size → Ext h h' → FaO Z h' a K N (fun _ => .null) → Wk W p l e R s m args below meth c n0 Q h' (k + 1) (n + cap) (mkF m (pc + 3) Ls (.ref a :: st))) :
    Wk W p l e R s m args below meth c n0 Q h k n (mkF m pc Ls (.int z :: st)) := by
  subst hN
  exact Wk.newR C w1 w2 hz hcap hbig hd hc hl fun h' a cA g E A O => H h' a g E (FaO.new A O)
theorem FaA.sto {f : Nat → Value} (F : FaA Z h a ty K N f) {b : Addr} (E : Exa Z h b K) : Sto Z h a (.ref b) := by obtain ⟨c, A, O, -⟩ := F; exact Sto.ofVA A rfl O (Ins.self E)
end Rules
end Jvm.Own
namespace Jvm.Own
theorem nm0 {a : Nat} : a ∉ ([] : List Nat) := by simp
theorem nmS {a b : Nat} {ws : List Nat} (h : a ≠ b) (t : a ∉ ws) : a ∉ b :: ws := by simp [h, t]
theorem nv0 {P : Nat → Prop} : ∀ x ∈ ([] : List Nat), P x := fun _ q => nomatch q
theorem nvS {P : Nat → Prop} {b : Nat} {ws : List Nat} (h : P b) (t : ∀ x ∈ ws, P x) : ∀ x ∈ b :: ws, P x := fun x q => (List.mem_cons.mp q).elim (fun e => e ▸ h) (t x)
end Jvm.Own
namespace Jvm.Own
open Jvm Jvm.ClassFile Sem Op Lib Jvm.Free Jvm.Stand Jvm.LawKit Jvm.RoadKit
theorem dupX2 {tb : Tables} [Ours tb] {e : Env} {below : List Frame} {T target : State} {m : MethodId} {c : Code} {g : JFrame} (h : At T m c below) (hx : tb.exec = Jvm.exec) (hg : g.method = m) {x y z : Value} {rest : List Value} (hd : decode c.code g.pc = .ok (.dup_x2, 1)) (hs : g.stack = x :: y :: z :: rest) (hc : x.category = 1) (hc2 : y.category = 1) (hc3 : z.category = 1)
    (hr : Steps tb e below (T.setTop { g with pc := g.pc + 1, stack := x :: y :: z :: x :: rest }) target) : Steps tb e below (T.setTop g) target := by
  subst hg
  jvm_step h [h.top, hx, hd, hs, hc, hc2, hc3, dup_x2.wp_sem]
  exact hr
end Jvm.Own
namespace Jvm.Own
open Jvm Jvm.ClassFile Sem Op Lib Jvm.Free Jvm.Stand Jvm.LawKit Jvm.RoadKit
theorem fld_known {Z : State} {h : Heap} {a : Addr} {C n d : String} {v : Value} (F : Fld Z h a C n d v) : ∃ cell : Cell, h[a]? = some cell ∧ cell.vm ≠ .unknown := by
  obtain ⟨cell, _, _, _, _, h1, -, -, h4, -⟩ := F; exact ⟨cell, h1, h4⟩
end Jvm.Own
namespace Jvm.Own
open Jvm Jvm.FP.Core
/-! doubles: whole numbers over 1024 (s404-m1) -/
/-- d is i / 1024 -/
def Sc (i : Int) : Datum → Prop
  | .fin s c q => Whole i (.fin s c (q + 10))
  | _ => False
theorem Sc.sum {i j : Int} {x y : Datum} (hx : Sc i x) (hy : Sc j y) : Sc (i + j) (exactSum x y) := by
  cases x with
  | nan => exact hx.elim
  | inf => exact hx.elim
  | fin s c q =>
  cases y with
  | nan => exact hy.elim
  | inf => exact hy.elim
  | fin t d r =>
    have h := whole_sum (x := .fin s c (q + 10)) (y := .fin t d (r + 10)) hx hy
    simp only [exactSum, sumUnits, inUnits] at h
    show Whole (i + j) (.fin _ _ (min q r + 10))
    simp only [sumUnits, inUnits]
    have e : min (q + 10) (r + 10) = min q r + 10 := by omega
    rw [e, show q + 10 - (min q r + 10) = q - min q r by omega, show r + 10 - (min q r + 10) = r - min q r by omega] at h
    exact h
theorem Sc.prod {i j : Int} {x y : Datum} (hx : Sc i x) (hy : Whole j y) : Sc (i * j) (exactProduct x y) := by
  cases x with
  | nan => exact hx.elim
  | inf => exact hx.elim
  | fin s c q =>
  cases y with
  | nan => exact hy.elim
  | inf => exact hy.elim
  | fin t d r =>
    have h := whole_product (x := .fin s c (q + 10)) (y := .fin t d r) hx hy
    simp only [exactProduct] at h
    show Whole (i * j) (.fin _ _ (q + r + 10))
    rw [show q + r + 10 = q + 10 + r by omega]; exact h
theorem fit_shift {s : Bool} {c : Nat} {q : Int} {n : Nat} (hn : 0 < n) (h : Jvm.FP.Core.fits b64 (.fin s c q)) (hv : n * 2 ^ (0 - q).toNat = c * 1 * 2 ^ (q - 0).toNat) : Jvm.FP.Core.fits b64 (.fin s c (q - 10)) := by
  obtain ⟨h1, h2, h3, h4⟩ := h
  have e1 : b64.qmin = -1074 := by decide
  have e2 : b64.qmax = 971 := by decide
  have e3 : (b64.p : Nat) = 53 := rfl
  have hq : -53 < q := by
    refine Int.lt_of_not_ge fun hge => ?_
    have z : (q - 0).toNat = 0 := by omega
    rw [z] at hv
    have w : 53 ≤ (0 - q).toNat := by omega
    have w2 : 2 ^ 53 ≤ 2 ^ (0 - q).toNat := Nat.pow_le_pow_right (by decide) w
    have w3 : 2 ^ (0 - q).toNat ≤ n * 2 ^ (0 - q).toNat := Nat.le_mul_of_pos_left _ hn
    rw [e3] at h1
    omega
  refine ⟨h1, by omega, by omega, Or.inr ?_⟩
  rcases h4 with h4 | h4
  · omega
  · exact h4
theorem Sc.round {i : Int} {x : Datum} (hi : i.natAbs ≤ 2 ^ 53) (h : Sc i x) : Sc i (round b64 x) := by
  cases x with
  | nan => exact h.elim
  | inf => exact h.elim
  | fin s c q =>
    have hw : Whole i (.fin s c (q + 10)) := h
    by_cases z : i = 0
    · have hc : c = 0 := (whole_zero hw).mpr z
      subst z hc
      show Sc 0 (roundRatio b64 s 0 1 q)
      simp only [roundRatio, if_true]
      show signed s (0 * _) = 0 * _
      simp [signed]
    · obtain ⟨c', q', hfit, hv⟩ := natFit good_b64 wide_b64 s (show i.natAbs ≤ 2 ^ b64.p from hi)
      have hr := whole_round good_b64 wide_b64 (show i.natAbs ≤ 2 ^ b64.p from hi) hw
      rw [round_whole hw, roundRatio_exact good_b64 (by decide) hfit hv] at hr
      have e : Jvm.FP.Core.round b64 (.fin s c q) = .fin s c' (q' - 10) := by
        show roundRatio b64 s c 1 q = _
        rw [roundRatio_congr (A' := i.natAbs) (B' := 1) (e' := -10) (by decide) (by decide) (by
          have := whole_natAbs hw
          rw [show (q - -10).toNat = (q + 10).toNat by omega, show (-10 - q).toNat = (-(q + 10)).toNat by omega]
          simpa using this)]
        refine roundRatio_exact good_b64 (by decide) (fit_shift (by omega) hfit hv) ?_
        rw [show (-10 - (q' - 10)).toNat = (0 - q').toNat by omega, show (q' - 10 - -10).toNat = (q' - 0).toNat by omega]
        exact hv
      rw [e]
      show Whole i (.fin s c' (q' - 10 + 10))
      rw [show q' - 10 + 10 = q' by omega]; exact hr
/-- the quotient of two whole numbers (in any units) -/
theorem ratio_norm {u : Bool} {i j : Int} {s t : Bool} {c d : Nat} {Q R e : Int} (hx : Whole i (.fin s c Q)) (hy : Whole j (.fin t d R)) (hj : j ≠ 0) (he : e = Q - R) : roundRatio b64 u c d e = roundRatio b64 u i.natAbs j.natAbs 0 := by
  have h1 := whole_natAbs hx
  have h2 := whole_natAbs hy
  have hd : 0 < d := by have := whole_zero hy; omega
  refine roundRatio_congr hd (by omega) ?_
  subst he
  have k : (-Q).toNat + R.toNat + (Q - R - 0).toNat = Q.toNat + (-R).toNat + (0 - (Q - R)).toNat := by omega
  refine Nat.eq_of_mul_eq_mul_right (Nat.two_pow_pos (Q.toNat + (-R).toNat)) ?_
  calc c * j.natAbs * 2 ^ (Q - R - 0).toNat * 2 ^ (Q.toNat + (-R).toNat)
      = (c * 2 ^ Q.toNat) * (j.natAbs * 2 ^ (-R).toNat) * 2 ^ (Q - R - 0).toNat := by rw [Nat.pow_add]; ac_rfl
    _ = (i.natAbs * 2 ^ (-Q).toNat) * (d * 2 ^ R.toNat) * 2 ^ (Q - R - 0).toNat := by rw [h1, h2]
    _ = i.natAbs * d * 2 ^ ((-Q).toNat + R.toNat + (Q - R - 0).toNat) := by rw [Nat.pow_add, Nat.pow_add]; ac_rfl
    _ = i.natAbs * d * 2 ^ (0 - (Q - R)).toNat * 2 ^ (Q.toNat + (-R).toNat) := by rw [k, Nat.pow_add, Nat.pow_add]; ac_rfl
/-- what a quotient is, but for the sign of zero -/
def Qn (i j : Int) (d : Datum) : Prop := ∃ u : Bool, (i ≠ 0 → u = (decide (i < 0) != decide (j < 0))) ∧ d = roundRatio b64 u i.natAbs j.natAbs 0
theorem Qn.whole {i j : Int} {x y : Datum} (hx : Whole i x) (hy : Whole j y) (hj : j ≠ 0) : Qn i j (quotient b64 x y) := by
  cases x with
  | nan => exact hx.elim
  | inf => exact hx.elim
  | fin s c q =>
  cases y with
  | nan => exact hy.elim
  | inf => exact hy.elim
  | fin t d r =>
    have hd : ¬ d = 0 := by have := whole_zero hy; omega
    refine ⟨s != t, fun hi => by rw [whole_sign hx hi, whole_sign hy hj], ?_⟩
    simp only [quotient, if_neg hd]
    exact ratio_norm hx hy hj rfl
theorem Qn.sc {i j : Int} {x y : Datum} (hx : Sc i x) (hy : Sc j y) (hj : j ≠ 0) : Qn i j (quotient b64 x y) := by
  cases x with
  | nan => exact hx.elim
  | inf => exact hx.elim
  | fin s c q =>
  cases y with
  | nan => exact hy.elim
  | inf => exact hy.elim
  | fin t d r =>
    have hx' : Whole i (.fin s c (q + 10)) := hx
    have hy' : Whole j (.fin t d (r + 10)) := hy
    have hd : ¬ d = 0 := by have := whole_zero hy'; omega
    refine ⟨s != t, fun hi => by rw [whole_sign hx' hi, whole_sign hy' hj], ?_⟩
    simp only [quotient, if_neg hd]
    exact ratio_norm hx' hy' hj (by omega)
theorem rr_ne_nan {u : Bool} {a b : Nat} {e : Int} : roundRatio b64 u a b e ≠ .nan := by
  unfold roundRatio; split
  · simp
  · simp only [roundAt, settle, bound]; (repeat' split) <;> simp
theorem Qn.order {i j : Int} {x y : Datum} (hx : Qn i j x) (hy : Qn i j y) : order x y = some .eq := by
  obtain ⟨u, h1, rfl⟩ := hx
  obtain ⟨v, h2, rfl⟩ := hy
  by_cases z : i = 0
  · subst z
    simp only [roundRatio, show (0 : Int).natAbs = 0 from rfl, if_true]
    cases u <;> cases v <;> decide
  · rw [h1 z, h2 z]; exact order_self rr_ne_nan
/-- the quotient is the whole number k -/
theorem Qn.int {j k : Int} {d : Datum} (h : Qn (j * k) j d) (hj : 0 < j) : Qn k 1 d := by
  obtain ⟨u, h1, rfl⟩ := h
  refine ⟨u, fun hk => ?_, ?_⟩
  · rw [h1 (Int.mul_ne_zero (by omega) hk)]
    have e1 : decide (j < 0) = false := decide_eq_false (by omega)
    have e2 : decide ((1 : Int) < 0) = false := by decide
    rw [e1, e2]
    congr 1
    rw [decide_eq_decide]
    constructor
    · intro q
      refine Int.lt_of_not_ge fun hge => ?_
      have := Int.mul_nonneg (Int.le_of_lt hj) hge
      omega
    · intro q; exact Int.mul_neg_of_pos_of_neg hj q
  · refine roundRatio_congr (by omega) (by decide) ?_
    rw [Int.natAbs_mul]
    show j.natAbs * k.natAbs * 1 * 2 ^ 0 = k.natAbs * j.natAbs * 2 ^ 0
    rw [Nat.mul_one, Nat.mul_comm j.natAbs]
theorem Qn.i2d (a : Int32) : Qn a.toInt 1 (val64 (i2d a)) := by
  rw [val64_i2d]
  refine ⟨decide (a.toInt < 0), fun _ => by simp, ?_⟩
  rfl
/-! on the bits -/
open Jvm.Free.Fl in
theorem nn_of {a : UInt64} (h : val64 a ≠ .nan) : NoNaN64 a := noNaN64_no.mpr (by
  have e : Jvm.FP.Core.dIsNaN a = decide (val64 a = .nan) := rfl
  rw [e]; exact decide_eq_false h)
def DSc (i : Int) (a : UInt64) : Prop := Sc i (val64 a)
def DQ (i j : Int) (a : UInt64) : Prop := Qn i j (val64 a)
theorem DSc.nn {i : Int} {a : UInt64} (h : DSc i a) : Jvm.Free.Fl.NoNaN64 a := nn_of fun q => by unfold DSc at h; rw [q] at h; exact h
theorem dint_nn {i : Int} {a : UInt64} (h : DInt i a) : Jvm.Free.Fl.NoNaN64 a := nn_of fun q => by unfold DInt at h; rw [q] at h; exact h
theorem DQ.nn {i j : Int} {a : UInt64} (h : DQ i j a) : Jvm.Free.Fl.NoNaN64 a := nn_of fun q => by
  unfold DQ at h; rw [q] at h; obtain ⟨u, -, e⟩ := h; exact rr_ne_nan e.symm
theorem DSc.zero : DSc 0 0 := by
  unfold DSc
  rw [show val64 0 = .fin false 0 (-1074) from by decide +kernel]
  show signed false (0 * _) = 0 * _
  simp [signed]
theorem w1024 : DInt 1024 4652218415073722368 := by
  unfold DInt
  rw [show val64 4652218415073722368 = .fin false 4503599627370496 (-42) from by decide +kernel]
  show signed false (4503599627370496 * 2 ^ 0) = 1024 * ((2 ^ 42 : Nat) : Int)
  decide
theorem DSc.add {i j : Int} {a b : UInt64} (ha : DSc i a) (hb : DSc j b) (h : (i + j).natAbs ≤ 2 ^ 53) : DSc (i + j) (Jvm.FP.dadd a b) := by
  show Sc _ (val64 (Jvm.FP.Core.dadd a b))
  rw [val64_dadd]; exact (Sc.sum ha hb).round h
theorem DSc.mul {i j : Int} {a b : UInt64} (ha : DSc i a) (hb : DInt j b) (h : (i * j).natAbs ≤ 2 ^ 53) : DSc (i * j) (Jvm.FP.dmul a b) := by
  show Sc _ (val64 (Jvm.FP.Core.dmul a b))
  rw [val64_dmul]; exact (Sc.prod ha hb).round h
theorem DSc.div {i : Int} {a : UInt64} (ha : DInt i a) (h : i.natAbs ≤ 2 ^ 53) : DSc i (Jvm.FP.ddiv a 4652218415073722368) := by
  show Sc _ (val64 (Jvm.FP.Core.ddiv a 4652218415073722368))
  rw [val64_ddiv]
  obtain ⟨u, hu, e⟩ := Qn.whole ha w1024 (by decide)
  rw [e, roundRatio_congr (A' := i.natAbs) (B' := 1) (e' := -10) (by decide) (by decide) (by
    show i.natAbs * 1 * 1024 = i.natAbs * 1024 * 1
    omega)]
  refine Sc.round (x := .fin u i.natAbs (-10)) h ?_
  show signed u (i.natAbs * 1) = i * ((1 : Nat) : Int)
  rw [Nat.mul_one]
  by_cases z : i = 0
  · subst z; simp [signed]
  · rw [hu z]
    have e2 : decide ((1024 : Int) < 0) = false := by decide
    rw [e2]
    unfold signed
    by_cases q : i < 0 <;> simp [q] <;> omega
theorem DQ.sc {i j : Int} {a b : UInt64} (ha : DSc i a) (hb : DSc j b) (hj : j ≠ 0) : DQ i j (Jvm.FP.ddiv a b) := by
  show Qn _ _ (val64 (Jvm.FP.Core.ddiv a b))
  rw [val64_ddiv]; exact Qn.sc ha hb hj
theorem DQ.whole {i j : Int} {a b : UInt64} (ha : DInt i a) (hb : DInt j b) (hj : j ≠ 0) : DQ i j (Jvm.FP.ddiv a b) := by
  show Qn _ _ (val64 (Jvm.FP.Core.ddiv a b))
  rw [val64_ddiv]; exact Qn.whole ha hb hj
theorem DQ.cmp {i j : Int} {a b : UInt64} (ha : DQ i j a) (hb : DQ i j b) : Jvm.Op.cmpValue (Jvm.FP.dcmp a b) .l = 0 := by
  have e : Jvm.FP.dcmp a b = some .eq := Qn.order ha hb
  rw [e]; rfl
theorem mulb {a v : Int} (h0 : 0 ≤ a) (h1 : a ≤ 512) (h2 : -2147483648 ≤ v) (h3 : v < 2147483648) : -1099511627776 ≤ a * v ∧ a * v ≤ 1099511627776 := by
  have l1 : a * v ≤ a * 2147483648 := Int.mul_le_mul_of_nonneg_left (by omega) h0
  have l2 : a * (-2147483648) ≤ a * v := Int.mul_le_mul_of_nonneg_left (by omega) h0
  omega
theorem nab {x : Int} (h1 : -9007199254740992 ≤ x) (h2 : x ≤ 9007199254740992) : x.natAbs ≤ 2 ^ 53 := by omega
end Jvm.Own
namespace Jvm.Pilot.@@N@@
open Jvm Jvm.ClassFile Sem Op Lib Jvm.Free Jvm.Stand Jvm.LawKit Jvm.RoadKit Bundle Jvm.Own Jvm.Pilot.@@N@@.Jvm.D
theorem pn_0 : plainName "com/example/torino/torino/AbsorbingChain" = true := by first | (simp [plainName, overriddenIn]; done) | decide +kernel
theorem pn_1 : plainName "com/example/torino/torino/AbsorbingChainAddExitPinLaw" = true := by first | (simp [plainName, overriddenIn]; done) | decide +kernel
theorem pd_0 : parseMethodDescriptor "(I)V" = some ⟨[.int], none⟩ := by decide +kernel
theorem pd_1 : parseMethodDescriptor "(IDD)V" = some ⟨[.int, .double, .double], none⟩ := by decide +kernel
theorem pd_2 : parseMethodDescriptor "(J)[D" = some ⟨[.long], some (.array .double)⟩ := by decide +kernel
theorem b511 (x : Int32) : 0 ≤ (x &&& (511 : Int32)).toInt ∧ (x &&& (511 : Int32)).toInt ≤ 511 := by have := c_mask x 511 9 (by decide) (by decide); omega
theorem b511p (x : Int32) : 1 ≤ ((x &&& (511 : Int32)) + (1 : Int32)).toInt ∧ ((x &&& (511 : Int32)) + (1 : Int32)).toInt ≤ 512 := by
  have h1 := b511 x
  have h2 := c_iadd (x &&& (511 : Int32)) 1
  have h3 : (1 : Int32).toInt = 1 := rfl
  have h4 := Int32.toInt_lt ((x &&& (511 : Int32)) + (1 : Int32))
  have h5 := Int32.le_toInt ((x &&& (511 : Int32)) + (1 : Int32))
  omega
theorem and1 (x : Int32) : x &&& (1 : Int32) = 0 ∨ x &&& (1 : Int32) = 1 := by
  have h := c_mask x 1 1 (by decide) (by decide)
  generalize x &&& (1 : Int32) = r at h ⊢
  have q : r.toInt = 0 ∨ r.toInt = 1 := by omega
  exact q.imp (fun q => Int32.toInt_inj.mp q) (fun q => Int32.toInt_inj.mp q)
theorem DQ.cast {i j i' j' : Int} {a : UInt64} (h : DQ i j a) (e1 : i = i') (e2 : j = j') : DQ i' j' a := e1 ▸ e2 ▸ h
theorem num_is {a b v w : Int32} (ha : 0 ≤ a.toInt ∧ a.toInt ≤ 512) (hb : 0 ≤ b.toInt ∧ b.toInt ≤ 512) : ((a.toInt64 * v.toInt64) + (b.toInt64 * w.toInt64)).toInt = a.toInt * v.toInt + b.toInt * w.toInt := by
  have m1 := mulb ha.1 ha.2 (Int32.le_toInt v) (Int32.toInt_lt v)
  have m2 := mulb hb.1 hb.2 (Int32.le_toInt w) (Int32.toInt_lt w)
  have c1 := c_lmul a.toInt64 v.toInt64
  have c2 := c_lmul b.toInt64 w.toInt64
  have c3 := c_ladd (a.toInt64 * v.toInt64) (b.toInt64 * w.toInt64)
  rw [c_i2l, c_i2l] at c1 c2
  have r1 := Int64.toInt_lt (a.toInt64 * v.toInt64)
  have r2 := Int64.le_toInt (a.toInt64 * v.toInt64)
  have r3 := Int64.toInt_lt (b.toInt64 * w.toInt64)
  have r4 := Int64.le_toInt (b.toInt64 * w.toInt64)
  have r5 := Int64.toInt_lt ((a.toInt64 * v.toInt64) + (b.toInt64 * w.toInt64))
  have r6 := Int64.le_toInt ((a.toInt64 * v.toInt64) + (b.toInt64 * w.toInt64))
  omega
theorem den_is {a b : Int32} (ha : 0 ≤ a.toInt ∧ a.toInt ≤ 512) (hb : 0 ≤ b.toInt ∧ b.toInt ≤ 512) : (a + b).toInt = a.toInt + b.toInt := by
  have c := c_iadd a b
  have r5 := Int32.toInt_lt (a + b)
  have r6 := Int32.le_toInt (a + b)
  omega
theorem d1_0 : decode prog_1_method_1_code 0 = .ok (.aload_n 0, 1) := by decide +kernel
theorem d1_1 : decode prog_1_method_1_code 1 = .ok (.invokespecial 1, 3) := by decide +kernel
theorem d1_4 : decode prog_1_method_1_code 4 = .ok (.aload_n 0, 1) := by decide +kernel
theorem d1_5 : decode prog_1_method_1_code 5 = .ok (.iconst (-1), 1) := by decide +kernel
theorem d1_6 : decode prog_1_method_1_code 6 = .ok (.putfield 7, 3) := by decide +kernel
theorem d1_9 : decode prog_1_method_1_code 9 = .ok (.aload_n 0, 1) := by decide +kernel
theorem d1_10 : decode prog_1_method_1_code 10 = .ok (.iload_n 1, 1) := by decide +kernel
theorem d1_11 : decode prog_1_method_1_code 11 = .ok (.putfield 13, 3) := by decide +kernel
theorem d1_14 : decode prog_1_method_1_code 14 = .ok (.aload_n 0, 1) := by decide +kernel
theorem d1_15 : decode prog_1_method_1_code 15 = .ok (.iload_n 1, 1) := by decide +kernel
theorem d1_16 : decode prog_1_method_1_code 16 = .ok (.newarray .double, 2) := by decide +kernel
theorem d1_18 : decode prog_1_method_1_code 18 = .ok (.putfield 16, 3) := by decide +kernel
theorem d1_21 : decode prog_1_method_1_code 21 = .ok (.aload_n 0, 1) := by decide +kernel
theorem d1_22 : decode prog_1_method_1_code 22 = .ok (.iload_n 1, 1) := by decide +kernel
theorem d1_23 : decode prog_1_method_1_code 23 = .ok (.newarray .double, 2) := by decide +kernel
theorem d1_25 : decode prog_1_method_1_code 25 = .ok (.putfield 20, 3) := by decide +kernel
theorem d1_28 : decode prog_1_method_1_code 28 = .ok (.aload_n 0, 1) := by decide +kernel
theorem d1_29 : decode prog_1_method_1_code 29 = .ok (.iload_n 1, 1) := by decide +kernel
theorem d1_30 : decode prog_1_method_1_code 30 = .ok (.anewarray 23, 3) := by decide +kernel
theorem d1_33 : decode prog_1_method_1_code 33 = .ok (.putfield 25, 3) := by decide +kernel
theorem d1_36 : decode prog_1_method_1_code 36 = .ok (.aload_n 0, 1) := by decide +kernel
theorem d1_37 : decode prog_1_method_1_code 37 = .ok (.iload_n 1, 1) := by decide +kernel
theorem d1_38 : decode prog_1_method_1_code 38 = .ok (.anewarray 29, 3) := by decide +kernel
theorem d1_41 : decode prog_1_method_1_code 41 = .ok (.putfield 30, 3) := by decide +kernel
theorem d1_44 : decode prog_1_method_1_code 44 = .ok (.aload_n 0, 1) := by decide +kernel
theorem d1_45 : decode prog_1_method_1_code 45 = .ok (.iload_n 1, 1) := by decide +kernel
theorem d1_46 : decode prog_1_method_1_code 46 = .ok (.newarray .int, 2) := by decide +kernel
theorem d1_48 : decode prog_1_method_1_code 48 = .ok (.putfield 34, 3) := by decide +kernel
theorem d1_51 : decode prog_1_method_1_code 51 = .ok (.aload_n 0, 1) := by decide +kernel
theorem d1_52 : decode prog_1_method_1_code 52 = .ok (.iload_n 1, 1) := by decide +kernel
theorem d1_53 : decode prog_1_method_1_code 53 = .ok (.anewarray 23, 3) := by decide +kernel
theorem d1_56 : decode prog_1_method_1_code 56 = .ok (.putfield 37, 3) := by decide +kernel
theorem d1_59 : decode prog_1_method_1_code 59 = .ok (.aload_n 0, 1) := by decide +kernel
theorem d1_60 : decode prog_1_method_1_code 60 = .ok (.iload_n 1, 1) := by decide +kernel
theorem d1_61 : decode prog_1_method_1_code 61 = .ok (.newarray .int, 2) := by decide +kernel
theorem d1_63 : decode prog_1_method_1_code 63 = .ok (.putfield 40, 3) := by decide +kernel
theorem d1_66 : decode prog_1_method_1_code 66 = .ok (.aload_n 0, 1) := by decide +kernel
theorem d1_67 : decode prog_1_method_1_code 67 = .ok (.iload_n 1, 1) := by decide +kernel
theorem d1_68 : decode prog_1_method_1_code 68 = .ok (.newarray .int, 2) := by decide +kernel
theorem d1_70 : decode prog_1_method_1_code 70 = .ok (.putfield 43, 3) := by decide +kernel
theorem d1_73 : decode prog_1_method_1_code 73 = .ok (.aload_n 0, 1) := by decide +kernel
theorem d1_74 : decode prog_1_method_1_code 74 = .ok (.iload_n 1, 1) := by decide +kernel
theorem d1_75 : decode prog_1_method_1_code 75 = .ok (.newarray .int, 2) := by decide +kernel
theorem d1_77 : decode prog_1_method_1_code 77 = .ok (.putfield 46, 3) := by decide +kernel
theorem d1_80 : decode prog_1_method_1_code 80 = .ok (.iconst 0, 1) := by decide +kernel
theorem d1_81 : decode prog_1_method_1_code 81 = .ok (.istore_n 2, 1) := by decide +kernel
theorem d1_82 : decode prog_1_method_1_code 82 = .ok (.iload_n 2, 1) := by decide +kernel
theorem d1_83 : decode prog_1_method_1_code 83 = .ok (.iload_n 1, 1) := by decide +kernel
theorem d1_84 : decode prog_1_method_1_code 84 = .ok (.if_icmp .ge 36, 3) := by decide +kernel
theorem d1_87 : decode prog_1_method_1_code 87 = .ok (.aload_n 0, 1) := by decide +kernel
theorem d1_88 : decode prog_1_method_1_code 88 = .ok (.getfield 25, 3) := by decide +kernel
theorem d1_91 : decode prog_1_method_1_code 91 = .ok (.iload_n 2, 1) := by decide +kernel
theorem d1_92 : decode prog_1_method_1_code 92 = .ok (.iconst 2, 1) := by decide +kernel
theorem d1_93 : decode prog_1_method_1_code 93 = .ok (.newarray .int, 2) := by decide +kernel
theorem d1_95 : decode prog_1_method_1_code 95 = .ok (.aastore, 1) := by decide +kernel
theorem d1_96 : decode prog_1_method_1_code 96 = .ok (.aload_n 0, 1) := by decide +kernel
theorem d1_97 : decode prog_1_method_1_code 97 = .ok (.getfield 30, 3) := by decide +kernel
theorem d1_100 : decode prog_1_method_1_code 100 = .ok (.iload_n 2, 1) := by decide +kernel
theorem d1_101 : decode prog_1_method_1_code 101 = .ok (.iconst 2, 1) := by decide +kernel
theorem d1_102 : decode prog_1_method_1_code 102 = .ok (.newarray .double, 2) := by decide +kernel
theorem d1_104 : decode prog_1_method_1_code 104 = .ok (.aastore, 1) := by decide +kernel
theorem d1_105 : decode prog_1_method_1_code 105 = .ok (.aload_n 0, 1) := by decide +kernel
theorem d1_106 : decode prog_1_method_1_code 106 = .ok (.getfield 37, 3) := by decide +kernel
theorem d1_109 : decode prog_1_method_1_code 109 = .ok (.iload_n 2, 1) := by decide +kernel
theorem d1_110 : decode prog_1_method_1_code 110 = .ok (.iconst 2, 1) := by decide +kernel
theorem d1_111 : decode prog_1_method_1_code 111 = .ok (.newarray .int, 2) := by decide +kernel
theorem d1_113 : decode prog_1_method_1_code 113 = .ok (.aastore, 1) := by decide +kernel
theorem d1_114 : decode prog_1_method_1_code 114 = .ok (.iinc 2 1, 3) := by decide +kernel
theorem d1_117 : decode prog_1_method_1_code 117 = .ok (.goto (-35), 3) := by decide +kernel
theorem d1_120 : decode prog_1_method_1_code 120 = .ok (.return_, 1) := by decide +kernel
set_option maxRecDepth 65536 in
set_option maxHeartbeats 40000000 in
theorem own_1_0 (l : Launch) (Z : State) (a0 : Array Value) (hw : ∀ d ∈ tables_1, d.before a0 Z = true) (n0 : Nat) (h0 : Heap) (hsz : n0 ≤ h0.size) (o0 : Addr) (P0 : Exa Z h0 o0 "com/example/torino/torino/AbsorbingChain") (P1 : Fld Z h0 o0 "com/example/torino/torino/AbsorbingChain" "markedRow" "I" (.int (0 : Int32))) (P2 : Fld Z h0 o0 "com/example/torino/torino/AbsorbingChain" "size" "I" (.int (0 : Int32))) (P3 : Fld Z h0 o0 "com/example/torino/torino/AbsorbingChain" "exitProbabilities" "[D" .null) (P4 : Fld Z h0 o0 "com/example/torino/torino/AbsorbingChain" "exitValues" "[D" .null) (P5 : Fld Z h0 o0 "com/example/torino/torino/AbsorbingChain" "nexts" "[[I" .null) (P6 : Fld Z h0 o0 "com/example/torino/torino/AbsorbingChain" "probabilities" "[[D" .null) (P7 : Fld Z h0 o0 "com/example/torino/torino/AbsorbingChain" "lengths" "[I" .null) (P8 : Fld Z h0 o0 "com/example/torino/torino/AbsorbingChain" "predecessors" "[[I" .null) (P9 : Fld Z h0 o0 "com/example/torino/torino/AbsorbingChain" "predecessorCounts" "[I" .null) (P10 : Fld Z h0 o0 "com/example/torino/torino/AbsorbingChain" "entryMarks" "[I" .null) (P11 : Fld Z h0 o0 "com/example/torino/torino/AbsorbingChain" "entries" "[I" .null) (G_o0 : n0 ≤ o0) :
    Met false l Z n0 (⟨"com/example/torino/torino/AbsorbingChain", "<init>", "(I)V"⟩ : MethodName) prog_1_method_1_code 3 none ({ frames := 1, cells := 15, slots := 30, locals := 12 } : Room) #[(.ref o0), (.int (2 : Int32))] h0 (fun v h => ∃ b36 : Addr, ∃ b79 : Addr, ∃ b127 : Addr, ∃ b180 : Addr, ∃ b238 : Addr, ∃ b301 : Addr, ∃ b369 : Addr, ∃ b442 : Addr, ∃ b520 : Addr, ∃ b603 : Addr, ∃ b882 : Addr, ∃ b691 : Addr, ∃ b985 : Addr, ∃ b784 : Addr, ∃ b1093 : Addr, v = none ∧ Keep h0 h [o0] ∧ h0.size ≤ b36 ∧ h0.size ≤ b79 ∧ h0.size ≤ b127 ∧ h0.size ≤ b180 ∧ h0.size ≤ b238 ∧ h0.size ≤ b301 ∧ h0.size ≤ b369 ∧ h0.size ≤ b442 ∧ h0.size ≤ b520 ∧ h0.size ≤ b603 ∧ h0.size ≤ b882 ∧ h0.size ≤ b691 ∧ h0.size ≤ b985 ∧ h0.size ≤ b784 ∧ h0.size ≤ b1093 ∧ b36 ≠ b79 ∧ b36 ≠ b127 ∧ b36 ≠ b180 ∧ b36 ≠ b238 ∧ b36 ≠ b301 ∧ b36 ≠ b369 ∧ b36 ≠ b442 ∧ b36 ≠ b520 ∧ b36 ≠ b603 ∧ b36 ≠ b882 ∧ b36 ≠ b691 ∧ b36 ≠ b985 ∧ b36 ≠ b784 ∧ b36 ≠ b1093 ∧ b79 ≠ b127 ∧ b79 ≠ b180 ∧ b79 ≠ b238 ∧ b79 ≠ b301 ∧ b79 ≠ b369 ∧ b79 ≠ b442 ∧ b79 ≠ b520 ∧ b79 ≠ b603 ∧ b79 ≠ b882 ∧ b79 ≠ b691 ∧ b79 ≠ b985 ∧ b79 ≠ b784 ∧ b79 ≠ b1093 ∧ b127 ≠ b180 ∧ b127 ≠ b238 ∧ b127 ≠ b301 ∧ b127 ≠ b369 ∧ b127 ≠ b442 ∧ b127 ≠ b520 ∧ b127 ≠ b603 ∧ b127 ≠ b882 ∧ b127 ≠ b691 ∧ b127 ≠ b985 ∧ b127 ≠ b784 ∧ b127 ≠ b1093 ∧ b180 ≠ b238 ∧ b180 ≠ b301 ∧ b180 ≠ b369 ∧ b180 ≠ b442 ∧ b180 ≠ b520 ∧ b180 ≠ b603 ∧ b180 ≠ b882 ∧ b180 ≠ b691 ∧ b180 ≠ b985 ∧ b180 ≠ b784 ∧ b180 ≠ b1093 ∧ b238 ≠ b301 ∧ b238 ≠ b369 ∧ b238 ≠ b442 ∧ b238 ≠ b520 ∧ b238 ≠ b603 ∧ b238 ≠ b882 ∧ b238 ≠ b691 ∧ b238 ≠ b985 ∧ b238 ≠ b784 ∧ b238 ≠ b1093 ∧ b301 ≠ b369 ∧ b301 ≠ b442 ∧ b301 ≠ b520 ∧ b301 ≠ b603 ∧ b301 ≠ b882 ∧ b301 ≠ b691 ∧ b301 ≠ b985 ∧ b301 ≠ b784 ∧ b301 ≠ b1093 ∧ b369 ≠ b442 ∧ b369 ≠ b520 ∧ b369 ≠ b603 ∧ b369 ≠ b882 ∧ b369 ≠ b691 ∧ b369 ≠ b985 ∧ b369 ≠ b784 ∧ b369 ≠ b1093 ∧ b442 ≠ b520 ∧ b442 ≠ b603 ∧ b442 ≠ b882 ∧ b442 ≠ b691 ∧ b442 ≠ b985 ∧ b442 ≠ b784 ∧ b442 ≠ b1093 ∧ b520 ≠ b603 ∧ b520 ≠ b882 ∧ b520 ≠ b691 ∧ b520 ≠ b985 ∧ b520 ≠ b784 ∧ b520 ≠ b1093 ∧ b603 ≠ b882 ∧ b603 ≠ b691 ∧ b603 ≠ b985 ∧ b603 ≠ b784 ∧ b603 ≠ b1093 ∧ b882 ≠ b691 ∧ b882 ≠ b985 ∧ b882 ≠ b784 ∧ b882 ≠ b1093 ∧ b691 ≠ b985 ∧ b691 ≠ b784 ∧ b691 ≠ b1093 ∧ b985 ≠ b784 ∧ b985 ≠ b1093 ∧ b784 ≠ b1093 ∧ Fld Z h o0 "com/example/torino/torino/AbsorbingChain" "markedRow" "I" (.int (-1 : Int32)) ∧ Fld Z h o0 "com/example/torino/torino/AbsorbingChain" "size" "I" (.int (2 : Int32)) ∧ Exa Z h b36 "[D" ∧ Fa Z h b36 .double 2 (fun _ => (.double (0 : UInt64))) ∧ Fld Z h o0 "com/example/torino/torino/AbsorbingChain" "exitProbabilities" "[D" (.ref b36) ∧ Exa Z h b79 "[D" ∧ Fa Z h b79 .double 2 (fun _ => (.double (0 : UInt64))) ∧ Fld Z h o0 "com/example/torino/torino/AbsorbingChain" "exitValues" "[D" (.ref b79) ∧ Exa Z h b127 "[[I" ∧ Fld Z h o0 "com/example/torino/torino/AbsorbingChain" "nexts" "[[I" (.ref b127) ∧ Exa Z h b180 "[[D" ∧ Fld Z h o0 "com/example/torino/torino/AbsorbingChain" "probabilities" "[[D" (.ref b180) ∧ Exa Z h b238 "[I" ∧ Fa Z h b238 .int 2 (fun _ => (.int (0 : Int32))) ∧ Fld Z h o0 "com/example/torino/torino/AbsorbingChain" "lengths" "[I" (.ref b238) ∧ Exa Z h b301 "[[I" ∧ Fld Z h o0 "com/example/torino/torino/AbsorbingChain" "predecessors" "[[I" (.ref b301) ∧ Exa Z h b369 "[I" ∧ Fa Z h b369 .int 2 (fun _ => (.int (0 : Int32))) ∧ Fld Z h o0 "com/example/torino/torino/AbsorbingChain" "predecessorCounts" "[I" (.ref b369) ∧ Exa Z h b442 "[I" ∧ Fa Z h b442 .int 2 (fun _ => (.int (0 : Int32))) ∧ Fld Z h o0 "com/example/torino/torino/AbsorbingChain" "entryMarks" "[I" (.ref b442) ∧ Exa Z h b520 "[I" ∧ Fa Z h b520 .int 2 (fun _ => (.int (0 : Int32))) ∧ Fld Z h o0 "com/example/torino/torino/AbsorbingChain" "entries" "[I" (.ref b520) ∧ Exa Z h b603 "[I" ∧ Fa Z h b603 .int 2 (fun _ => (.int (0 : Int32))) ∧ Exa Z h b691 "[D" ∧ Fa Z h b691 .double 2 (fun _ => (.double (0 : UInt64))) ∧ Exa Z h b784 "[I" ∧ Fa Z h b784 .int 2 (fun _ => (.int (0 : Int32))) ∧ Exa Z h b882 "[I" ∧ Fa Z h b882 .int 2 (fun _ => (.int (0 : Int32))) ∧ FaA Z h b127 .int "[I" 2 (up (up (fun _ => .null) 0 (.ref b603)) 1 (.ref b882)) ∧ Exa Z h b985 "[D" ∧ Fa Z h b985 .double 2 (fun _ => (.double (0 : UInt64))) ∧ FaA Z h b180 .double "[D" 2 (up (up (fun _ => .null) 0 (.ref b691)) 1 (.ref b985)) ∧ Exa Z h b1093 "[I" ∧ Fa Z h b1093 .int 2 (fun _ => (.int (0 : Int32))) ∧ FaA Z h b301 .int "[I" 2 (up (up (fun _ => .null) 0 (.ref b784)) 1 (.ref b1093))) := by
  refine Met.of (plainFor_of_name pn_0) #[.val (.ref o0), .val (.int (2 : Int32)), .unset] (fun m => by first | (simp [entryFrame, mkF, argsToLocals, Value.category]; done) | rfl) ?_
  intro p e s m below meth c C
  refine Wk.st (g' := (mkF m 1 #[.val (.ref o0), .val (.int (2 : Int32)), .unset] [(.ref o0)])) (fun X t q => XS.aloadN X.here C.hx rfl (hb C.hby d1_0) rfl rfl q) ?_
  refine Wk.initO C (hw _ (List.mem_of_getElem? (i := 6) rfl)) (hw _ (List.mem_of_getElem? (i := 7) rfl)) (hw _ (List.mem_of_getElem? (i := 8) rfl)) (w := 0) rfl d1_1 (by decide) (Nat.le_of_eq rfl) (by decide) ?_
  show Wk _ p l e _ s m _ below meth c n0 _ h0 0 0 (mkF m 4 #[.val (.ref o0), .val (.int (2 : Int32)), .unset] [])
  refine Wk.st (g' := (mkF m 5 #[.val (.ref o0), .val (.int (2 : Int32)), .unset] [(.ref o0)])) (fun X t q => XS.aloadN X.here C.hx rfl (hb C.hby d1_4) rfl rfl q) ?_
  refine Wk.st (g' := (mkF m 6 #[.val (.ref o0), .val (.int (2 : Int32)), .unset] [(.int (-1 : Int32)), (.ref o0)])) (fun X t q => XS.iconst X.here C.hx rfl (hb C.hby d1_5) q) ?_
  refine Wk.putF C (hw _ (List.mem_of_getElem? (i := 9) rfl)) Via.refl P1 P0 (Or.inl (hw _ (List.mem_of_getElem? (i := 10) rfl))) (hw _ (List.mem_of_getElem? (i := 1) rfl)) (ty := .int) (by decide) (v' := (.int (-1 : Int32))) rfl rfl G_o0 d1_6 ?_
  intro h1 W2
  have F3 : Fld Z h1 o0 "com/example/torino/torino/AbsorbingChain" "markedRow" "I" (.int (-1 : Int32)) := P1.same W2
  have F4 : Exa Z h1 o0 "com/example/torino/torino/AbsorbingChain" := P0.wr W2
  have F5 : Fld Z h1 o0 "com/example/torino/torino/AbsorbingChain" "size" "I" (.int (0 : Int32)) := P2.other W2 (Or.inr (slot_ne (Or.inr (hw _ (List.mem_of_getElem? (i := 12) rfl))) (Or.inl (hw _ (List.mem_of_getElem? (i := 10) rfl))) (by decide) (t := .int) (t' := .int) (by decide) (by decide)))
  have F6 : Fld Z h1 o0 "com/example/torino/torino/AbsorbingChain" "exitProbabilities" "[D" .null := P3.other W2 (Or.inr (slot_ne (Or.inr (hw _ (List.mem_of_getElem? (i := 15) rfl))) (Or.inl (hw _ (List.mem_of_getElem? (i := 10) rfl))) (by decide) (t := (.array .double)) (t' := .int) (by decide) (by decide)))
  have F7 : Fld Z h1 o0 "com/example/torino/torino/AbsorbingChain" "exitValues" "[D" .null := P4.other W2 (Or.inr (slot_ne (Or.inr (hw _ (List.mem_of_getElem? (i := 17) rfl))) (Or.inl (hw _ (List.mem_of_getElem? (i := 10) rfl))) (by decide) (t := (.array .double)) (t' := .int) (by decide) (by decide)))
  have F8 : Fld Z h1 o0 "com/example/torino/torino/AbsorbingChain" "nexts" "[[I" .null := P5.other W2 (Or.inr (slot_ne (Or.inr (hw _ (List.mem_of_getElem? (i := 21) rfl))) (Or.inl (hw _ (List.mem_of_getElem? (i := 10) rfl))) (by decide) (t := (.array (.array .int))) (t' := .int) (by decide) (by decide)))
  have F9 : Fld Z h1 o0 "com/example/torino/torino/AbsorbingChain" "probabilities" "[[D" .null := P6.other W2 (Or.inr (slot_ne (Or.inr (hw _ (List.mem_of_getElem? (i := 25) rfl))) (Or.inl (hw _ (List.mem_of_getElem? (i := 10) rfl))) (by decide) (t := (.array (.array .double))) (t' := .int) (by decide) (by decide)))
  have F10 : Fld Z h1 o0 "com/example/torino/torino/AbsorbingChain" "lengths" "[I" .null := P7.other W2 (Or.inr (slot_ne (Or.inr (hw _ (List.mem_of_getElem? (i := 28) rfl))) (Or.inl (hw _ (List.mem_of_getElem? (i := 10) rfl))) (by decide) (t := (.array .int)) (t' := .int) (by decide) (by decide)))
  have F11 : Fld Z h1 o0 "com/example/torino/torino/AbsorbingChain" "predecessors" "[[I" .null := P8.other W2 (Or.inr (slot_ne (Or.inr (hw _ (List.mem_of_getElem? (i := 30) rfl))) (Or.inl (hw _ (List.mem_of_getElem? (i := 10) rfl))) (by decide) (t := (.array (.array .int))) (t' := .int) (by decide) (by decide)))
  have F12 : Fld Z h1 o0 "com/example/torino/torino/AbsorbingChain" "predecessorCounts" "[I" .null := P9.other W2 (Or.inr (slot_ne (Or.inr (hw _ (List.mem_of_getElem? (i := 32) rfl))) (Or.inl (hw _ (List.mem_of_getElem? (i := 10) rfl))) (by decide) (t := (.array .int)) (t' := .int) (by decide) (by decide)))
  have F13 : Fld Z h1 o0 "com/example/torino/torino/AbsorbingChain" "entryMarks" "[I" .null := P10.other W2 (Or.inr (slot_ne (Or.inr (hw _ (List.mem_of_getElem? (i := 34) rfl))) (Or.inl (hw _ (List.mem_of_getElem? (i := 10) rfl))) (by decide) (t := (.array .int)) (t' := .int) (by decide) (by decide)))
  have F14 : Fld Z h1 o0 "com/example/torino/torino/AbsorbingChain" "entries" "[I" .null := P11.other W2 (Or.inr (slot_ne (Or.inr (hw _ (List.mem_of_getElem? (i := 36) rfl))) (Or.inl (hw _ (List.mem_of_getElem? (i := 10) rfl))) (by decide) (t := (.array .int)) (t' := .int) (by decide) (by decide)))
  have sz15 : n0 ≤ h1.size := Nat.le_trans hsz (Nat.le_of_eq W2.size.symm)
  have sy16 : h0.size ≤ h1.size := Nat.le_trans (Nat.le_refl h0.size) (Nat.le_of_eq W2.size.symm)
  have K17 := (Keep.refl h0 [o0]).wr W2 (Or.inl (by simp))
  show Wk _ p l e _ s m _ below meth c n0 _ h1 0 0 (mkF m 9 #[.val (.ref o0), .val (.int (2 : Int32)), .unset] [])
  refine Wk.st (g' := (mkF m 10 #[.val (.ref o0), .val (.int (2 : Int32)), .unset] [(.ref o0)])) (fun X t q => XS.aloadN X.here C.hx rfl (hb C.hby d1_9) rfl rfl q) ?_
  refine Wk.st (g' := (mkF m 11 #[.val (.ref o0), .val (.int (2 : Int32)), .unset] [(.int (2 : Int32)), (.ref o0)])) (fun X t q => XS.iloadN X.here C.hx rfl (hb C.hby d1_10) rfl q) ?_
  refine Wk.putF C (hw _ (List.mem_of_getElem? (i := 11) rfl)) Via.refl F5 F4 (Or.inr ⟨(hw _ (List.mem_of_getElem? (i := 12) rfl)), rfl, rfl⟩) (hw _ (List.mem_of_getElem? (i := 1) rfl)) (ty := .int) (by decide) (v' := (.int (2 : Int32))) rfl rfl G_o0 d1_11 ?_
  intro h18 W19
  have F20 : Fld Z h18 o0 "com/example/torino/torino/AbsorbingChain" "size" "I" (.int (2 : Int32)) := F5.same W19
  have F21 : Exa Z h18 o0 "com/example/torino/torino/AbsorbingChain" := F4.wr W19
  have F22 : Fld Z h18 o0 "com/example/torino/torino/AbsorbingChain" "exitProbabilities" "[D" .null := F6.other W19 (Or.inr (slot_ne (Or.inr (hw _ (List.mem_of_getElem? (i := 15) rfl))) (Or.inr (hw _ (List.mem_of_getElem? (i := 12) rfl))) (by decide) (t := (.array .double)) (t' := .int) (by decide) (by decide)))
  have F23 : Fld Z h18 o0 "com/example/torino/torino/AbsorbingChain" "exitValues" "[D" .null := F7.other W19 (Or.inr (slot_ne (Or.inr (hw _ (List.mem_of_getElem? (i := 17) rfl))) (Or.inr (hw _ (List.mem_of_getElem? (i := 12) rfl))) (by decide) (t := (.array .double)) (t' := .int) (by decide) (by decide)))
  have F24 : Fld Z h18 o0 "com/example/torino/torino/AbsorbingChain" "nexts" "[[I" .null := F8.other W19 (Or.inr (slot_ne (Or.inr (hw _ (List.mem_of_getElem? (i := 21) rfl))) (Or.inr (hw _ (List.mem_of_getElem? (i := 12) rfl))) (by decide) (t := (.array (.array .int))) (t' := .int) (by decide) (by decide)))
  have F25 : Fld Z h18 o0 "com/example/torino/torino/AbsorbingChain" "probabilities" "[[D" .null := F9.other W19 (Or.inr (slot_ne (Or.inr (hw _ (List.mem_of_getElem? (i := 25) rfl))) (Or.inr (hw _ (List.mem_of_getElem? (i := 12) rfl))) (by decide) (t := (.array (.array .double))) (t' := .int) (by decide) (by decide)))
  have F26 : Fld Z h18 o0 "com/example/torino/torino/AbsorbingChain" "lengths" "[I" .null := F10.other W19 (Or.inr (slot_ne (Or.inr (hw _ (List.mem_of_getElem? (i := 28) rfl))) (Or.inr (hw _ (List.mem_of_getElem? (i := 12) rfl))) (by decide) (t := (.array .int)) (t' := .int) (by decide) (by decide)))
  have F27 : Fld Z h18 o0 "com/example/torino/torino/AbsorbingChain" "predecessors" "[[I" .null := F11.other W19 (Or.inr (slot_ne (Or.inr (hw _ (List.mem_of_getElem? (i := 30) rfl))) (Or.inr (hw _ (List.mem_of_getElem? (i := 12) rfl))) (by decide) (t := (.array (.array .int))) (t' := .int) (by decide) (by decide)))
  have F28 : Fld Z h18 o0 "com/example/torino/torino/AbsorbingChain" "predecessorCounts" "[I" .null := F12.other W19 (Or.inr (slot_ne (Or.inr (hw _ (List.mem_of_getElem? (i := 32) rfl))) (Or.inr (hw _ (List.mem_of_getElem? (i := 12) rfl))) (by decide) (t := (.array .int)) (t' := .int) (by decide) (by decide)))
  have F29 : Fld Z h18 o0 "com/example/torino/torino/AbsorbingChain" "entryMarks" "[I" .null := F13.other W19 (Or.inr (slot_ne (Or.inr (hw _ (List.mem_of_getElem? (i := 34) rfl))) (Or.inr (hw _ (List.mem_of_getElem? (i := 12) rfl))) (by decide) (t := (.array .int)) (t' := .int) (by decide) (by decide)))
  have F30 : Fld Z h18 o0 "com/example/torino/torino/AbsorbingChain" "entries" "[I" .null := F14.other W19 (Or.inr (slot_ne (Or.inr (hw _ (List.mem_of_getElem? (i := 36) rfl))) (Or.inr (hw _ (List.mem_of_getElem? (i := 12) rfl))) (by decide) (t := (.array .int)) (t' := .int) (by decide) (by decide)))
  have F31 : Fld Z h18 o0 "com/example/torino/torino/AbsorbingChain" "markedRow" "I" (.int (-1 : Int32)) := F3.other W19 (Or.inr (slot_ne (Or.inl (hw _ (List.mem_of_getElem? (i := 10) rfl))) (Or.inr (hw _ (List.mem_of_getElem? (i := 12) rfl))) (by decide) (t := .int) (t' := .int) (by decide) (by decide)))
  have sz32 : n0 ≤ h18.size := Nat.le_trans sz15 (Nat.le_of_eq W19.size.symm)
  have sy33 : h0.size ≤ h18.size := Nat.le_trans sy16 (Nat.le_of_eq W19.size.symm)
  have K34 := K17.wr W19 (Or.inl (by simp))
  show Wk _ p l e _ s m _ below meth c n0 _ h18 0 0 (mkF m 14 #[.val (.ref o0), .val (.int (2 : Int32)), .unset] [])
  refine Wk.st (g' := (mkF m 15 #[.val (.ref o0), .val (.int (2 : Int32)), .unset] [(.ref o0)])) (fun X t q => XS.aloadN X.here C.hx rfl (hb C.hby d1_14) rfl rfl q) ?_
  refine Wk.st (g' := (mkF m 16 #[.val (.ref o0), .val (.int (2 : Int32)), .unset] [(.int (2 : Int32)), (.ref o0)])) (fun X t q => XS.iloadN X.here C.hx rfl (hb C.hby d1_15) rfl q) ?_
  refine Wk.fNewP C (hw _ (List.mem_of_getElem? (i := 13) rfl)) (ty := .double) (dv := (.double (0 : UInt64))) (N := 2) (ad := "[D") rfl rfl (by decide) (by decide) (by decide) (cap := 2) (by decide) (by decide) d1_16 (by decide) (by decide) ?_
  intro h35 b36 g37 E38 A39 F40
  have ne41 : o0 ≠ b36 := Nat.ne_of_lt (Nat.lt_of_lt_of_le F21.lt (Nat.le_of_eq g37.symm))
  have ge42 : n0 ≤ b36 := Nat.le_trans sz32 (Nat.le_of_eq g37.symm)
  have gz43 : h0.size ≤ b36 := Nat.le_trans sy33 (Nat.le_of_eq g37.symm)
  have F44 : Exa Z h35 o0 "com/example/torino/torino/AbsorbingChain" := F21.ext E38
  have F45 : Fld Z h35 o0 "com/example/torino/torino/AbsorbingChain" "exitProbabilities" "[D" .null := F22.ext E38
  have F46 : Fld Z h35 o0 "com/example/torino/torino/AbsorbingChain" "exitValues" "[D" .null := F23.ext E38
  have F47 : Fld Z h35 o0 "com/example/torino/torino/AbsorbingChain" "nexts" "[[I" .null := F24.ext E38
  have F48 : Fld Z h35 o0 "com/example/torino/torino/AbsorbingChain" "probabilities" "[[D" .null := F25.ext E38
  have F49 : Fld Z h35 o0 "com/example/torino/torino/AbsorbingChain" "lengths" "[I" .null := F26.ext E38
  have F50 : Fld Z h35 o0 "com/example/torino/torino/AbsorbingChain" "predecessors" "[[I" .null := F27.ext E38
  have F51 : Fld Z h35 o0 "com/example/torino/torino/AbsorbingChain" "predecessorCounts" "[I" .null := F28.ext E38
  have F52 : Fld Z h35 o0 "com/example/torino/torino/AbsorbingChain" "entryMarks" "[I" .null := F29.ext E38
  have F53 : Fld Z h35 o0 "com/example/torino/torino/AbsorbingChain" "entries" "[I" .null := F30.ext E38
  have F54 : Fld Z h35 o0 "com/example/torino/torino/AbsorbingChain" "markedRow" "I" (.int (-1 : Int32)) := F31.ext E38
  have F55 : Fld Z h35 o0 "com/example/torino/torino/AbsorbingChain" "size" "I" (.int (2 : Int32)) := F20.ext E38
  have sz56 : n0 ≤ h35.size := Nat.le_trans sz32 E38.1
  have sy57 : h0.size ≤ h35.size := Nat.le_trans sy33 E38.1
  have K58 := K34.ext E38
  show Wk _ p l e _ s m _ below meth c n0 _ h35 1 2 (mkF m 18 #[.val (.ref o0), .val (.int (2 : Int32)), .unset] [(.ref b36), (.ref o0)])
  refine Wk.putF C (hw _ (List.mem_of_getElem? (i := 14) rfl)) Via.refl F45 F44 (Or.inr ⟨(hw _ (List.mem_of_getElem? (i := 15) rfl)), rfl, rfl⟩) (hw _ (List.mem_of_getElem? (i := 1) rfl)) (ty := (.array .double)) (by decide) (v' := (.ref b36)) rfl rfl G_o0 d1_18 ?_
  intro h59 W60
  have F61 : Fld Z h59 o0 "com/example/torino/torino/AbsorbingChain" "exitProbabilities" "[D" (.ref b36) := F45.same W60
  have F62 : Exa Z h59 o0 "com/example/torino/torino/AbsorbingChain" := F44.wr W60
  have F63 : Fld Z h59 o0 "com/example/torino/torino/AbsorbingChain" "exitValues" "[D" .null := F46.other W60 (Or.inr (slot_ne (Or.inr (hw _ (List.mem_of_getElem? (i := 17) rfl))) (Or.inr (hw _ (List.mem_of_getElem? (i := 15) rfl))) (by decide) (t := (.array .double)) (t' := (.array .double)) (by decide) (by decide)))
  have F64 : Fld Z h59 o0 "com/example/torino/torino/AbsorbingChain" "nexts" "[[I" .null := F47.other W60 (Or.inr (slot_ne (Or.inr (hw _ (List.mem_of_getElem? (i := 21) rfl))) (Or.inr (hw _ (List.mem_of_getElem? (i := 15) rfl))) (by decide) (t := (.array (.array .int))) (t' := (.array .double)) (by decide) (by decide)))
  have F65 : Fld Z h59 o0 "com/example/torino/torino/AbsorbingChain" "probabilities" "[[D" .null := F48.other W60 (Or.inr (slot_ne (Or.inr (hw _ (List.mem_of_getElem? (i := 25) rfl))) (Or.inr (hw _ (List.mem_of_getElem? (i := 15) rfl))) (by decide) (t := (.array (.array .double))) (t' := (.array .double)) (by decide) (by decide)))
  have F66 : Fld Z h59 o0 "com/example/torino/torino/AbsorbingChain" "lengths" "[I" .null := F49.other W60 (Or.inr (slot_ne (Or.inr (hw _ (List.mem_of_getElem? (i := 28) rfl))) (Or.inr (hw _ (List.mem_of_getElem? (i := 15) rfl))) (by decide) (t := (.array .int)) (t' := (.array .double)) (by decide) (by decide)))
  have F67 : Fld Z h59 o0 "com/example/torino/torino/AbsorbingChain" "predecessors" "[[I" .null := F50.other W60 (Or.inr (slot_ne (Or.inr (hw _ (List.mem_of_getElem? (i := 30) rfl))) (Or.inr (hw _ (List.mem_of_getElem? (i := 15) rfl))) (by decide) (t := (.array (.array .int))) (t' := (.array .double)) (by decide) (by decide)))
  have F68 : Fld Z h59 o0 "com/example/torino/torino/AbsorbingChain" "predecessorCounts" "[I" .null := F51.other W60 (Or.inr (slot_ne (Or.inr (hw _ (List.mem_of_getElem? (i := 32) rfl))) (Or.inr (hw _ (List.mem_of_getElem? (i := 15) rfl))) (by decide) (t := (.array .int)) (t' := (.array .double)) (by decide) (by decide)))
  have F69 : Fld Z h59 o0 "com/example/torino/torino/AbsorbingChain" "entryMarks" "[I" .null := F52.other W60 (Or.inr (slot_ne (Or.inr (hw _ (List.mem_of_getElem? (i := 34) rfl))) (Or.inr (hw _ (List.mem_of_getElem? (i := 15) rfl))) (by decide) (t := (.array .int)) (t' := (.array .double)) (by decide) (by decide)))
  have F70 : Fld Z h59 o0 "com/example/torino/torino/AbsorbingChain" "entries" "[I" .null := F53.other W60 (Or.inr (slot_ne (Or.inr (hw _ (List.mem_of_getElem? (i := 36) rfl))) (Or.inr (hw _ (List.mem_of_getElem? (i := 15) rfl))) (by decide) (t := (.array .int)) (t' := (.array .double)) (by decide) (by decide)))
  have F71 : Fld Z h59 o0 "com/example/torino/torino/AbsorbingChain" "markedRow" "I" (.int (-1 : Int32)) := F54.other W60 (Or.inr (slot_ne (Or.inl (hw _ (List.mem_of_getElem? (i := 10) rfl))) (Or.inr (hw _ (List.mem_of_getElem? (i := 15) rfl))) (by decide) (t := .int) (t' := (.array .double)) (by decide) (by decide)))
  have F72 : Fld Z h59 o0 "com/example/torino/torino/AbsorbingChain" "size" "I" (.int (2 : Int32)) := F55.other W60 (Or.inr (slot_ne (Or.inr (hw _ (List.mem_of_getElem? (i := 12) rfl))) (Or.inr (hw _ (List.mem_of_getElem? (i := 15) rfl))) (by decide) (t := .int) (t' := (.array .double)) (by decide) (by decide)))
  have F73 : Exa Z h59 b36 "[D" := A39.wr W60
  have F74 : Fa Z h59 b36 .double 2 (fun _ => (.double (0 : UInt64))) := F40.other W60 (Ne.symm ne41)
  have sz75 : n0 ≤ h59.size := Nat.le_trans sz56 (Nat.le_of_eq W60.size.symm)
  have sy76 : h0.size ≤ h59.size := Nat.le_trans sy57 (Nat.le_of_eq W60.size.symm)
  have K77 := K58.wr W60 (Or.inl (by simp))
  show Wk _ p l e _ s m _ below meth c n0 _ h59 1 2 (mkF m 21 #[.val (.ref o0), .val (.int (2 : Int32)), .unset] [])
  refine Wk.st (g' := (mkF m 22 #[.val (.ref o0), .val (.int (2 : Int32)), .unset] [(.ref o0)])) (fun X t q => XS.aloadN X.here C.hx rfl (hb C.hby d1_21) rfl rfl q) ?_
  refine Wk.st (g' := (mkF m 23 #[.val (.ref o0), .val (.int (2 : Int32)), .unset] [(.int (2 : Int32)), (.ref o0)])) (fun X t q => XS.iloadN X.here C.hx rfl (hb C.hby d1_22) rfl q) ?_
  refine Wk.fNewP C (hw _ (List.mem_of_getElem? (i := 13) rfl)) (ty := .double) (dv := (.double (0 : UInt64))) (N := 2) (ad := "[D") rfl rfl (by decide) (by decide) (by decide) (cap := 2) (by decide) (by decide) d1_23 (by decide) (by decide) ?_
  intro h78 b79 g80 E81 A82 F83
  have ne84 : o0 ≠ b79 := Nat.ne_of_lt (Nat.lt_of_lt_of_le F62.lt (Nat.le_of_eq g80.symm))
  have ne85 : b36 ≠ b79 := Nat.ne_of_lt (Nat.lt_of_lt_of_le F73.lt (Nat.le_of_eq g80.symm))
  have ge86 : n0 ≤ b79 := Nat.le_trans sz75 (Nat.le_of_eq g80.symm)
  have gz87 : h0.size ≤ b79 := Nat.le_trans sy76 (Nat.le_of_eq g80.symm)
  have F88 : Exa Z h78 o0 "com/example/torino/torino/AbsorbingChain" := F62.ext E81
  have F89 : Fld Z h78 o0 "com/example/torino/torino/AbsorbingChain" "exitValues" "[D" .null := F63.ext E81
  have F90 : Fld Z h78 o0 "com/example/torino/torino/AbsorbingChain" "nexts" "[[I" .null := F64.ext E81
  have F91 : Fld Z h78 o0 "com/example/torino/torino/AbsorbingChain" "probabilities" "[[D" .null := F65.ext E81
  have F92 : Fld Z h78 o0 "com/example/torino/torino/AbsorbingChain" "lengths" "[I" .null := F66.ext E81
  have F93 : Fld Z h78 o0 "com/example/torino/torino/AbsorbingChain" "predecessors" "[[I" .null := F67.ext E81
  have F94 : Fld Z h78 o0 "com/example/torino/torino/AbsorbingChain" "predecessorCounts" "[I" .null := F68.ext E81
  have F95 : Fld Z h78 o0 "com/example/torino/torino/AbsorbingChain" "entryMarks" "[I" .null := F69.ext E81
  have F96 : Fld Z h78 o0 "com/example/torino/torino/AbsorbingChain" "entries" "[I" .null := F70.ext E81
  have F97 : Fld Z h78 o0 "com/example/torino/torino/AbsorbingChain" "markedRow" "I" (.int (-1 : Int32)) := F71.ext E81
  have F98 : Fld Z h78 o0 "com/example/torino/torino/AbsorbingChain" "size" "I" (.int (2 : Int32)) := F72.ext E81
  have F99 : Exa Z h78 b36 "[D" := F73.ext E81
  have F100 : Fa Z h78 b36 .double 2 (fun _ => (.double (0 : UInt64))) := F74.ext E81
  have F101 : Fld Z h78 o0 "com/example/torino/torino/AbsorbingChain" "exitProbabilities" "[D" (.ref b36) := F61.ext E81
  have sz102 : n0 ≤ h78.size := Nat.le_trans sz75 E81.1
  have sy103 : h0.size ≤ h78.size := Nat.le_trans sy76 E81.1
  have K104 := K77.ext E81
  show Wk _ p l e _ s m _ below meth c n0 _ h78 2 4 (mkF m 25 #[.val (.ref o0), .val (.int (2 : Int32)), .unset] [(.ref b79), (.ref o0)])
  refine Wk.putF C (hw _ (List.mem_of_getElem? (i := 16) rfl)) Via.refl F89 F88 (Or.inr ⟨(hw _ (List.mem_of_getElem? (i := 17) rfl)), rfl, rfl⟩) (hw _ (List.mem_of_getElem? (i := 1) rfl)) (ty := (.array .double)) (by decide) (v' := (.ref b79)) rfl rfl G_o0 d1_25 ?_
  intro h105 W106
  have F107 : Fld Z h105 o0 "com/example/torino/torino/AbsorbingChain" "exitValues" "[D" (.ref b79) := F89.same W106
  have F108 : Exa Z h105 o0 "com/example/torino/torino/AbsorbingChain" := F88.wr W106
  have F109 : Fld Z h105 o0 "com/example/torino/torino/AbsorbingChain" "nexts" "[[I" .null := F90.other W106 (Or.inr (slot_ne (Or.inr (hw _ (List.mem_of_getElem? (i := 21) rfl))) (Or.inr (hw _ (List.mem_of_getElem? (i := 17) rfl))) (by decide) (t := (.array (.array .int))) (t' := (.array .double)) (by decide) (by decide)))
  have F110 : Fld Z h105 o0 "com/example/torino/torino/AbsorbingChain" "probabilities" "[[D" .null := F91.other W106 (Or.inr (slot_ne (Or.inr (hw _ (List.mem_of_getElem? (i := 25) rfl))) (Or.inr (hw _ (List.mem_of_getElem? (i := 17) rfl))) (by decide) (t := (.array (.array .double))) (t' := (.array .double)) (by decide) (by decide)))
  have F111 : Fld Z h105 o0 "com/example/torino/torino/AbsorbingChain" "lengths" "[I" .null := F92.other W106 (Or.inr (slot_ne (Or.inr (hw _ (List.mem_of_getElem? (i := 28) rfl))) (Or.inr (hw _ (List.mem_of_getElem? (i := 17) rfl))) (by decide) (t := (.array .int)) (t' := (.array .double)) (by decide) (by decide)))
  have F112 : Fld Z h105 o0 "com/example/torino/torino/AbsorbingChain" "predecessors" "[[I" .null := F93.other W106 (Or.inr (slot_ne (Or.inr (hw _ (List.mem_of_getElem? (i := 30) rfl))) (Or.inr (hw _ (List.mem_of_getElem? (i := 17) rfl))) (by decide) (t := (.array (.array .int))) (t' := (.array .double)) (by decide) (by decide)))
  have F113 : Fld Z h105 o0 "com/example/torino/torino/AbsorbingChain" "predecessorCounts" "[I" .null := F94.other W106 (Or.inr (slot_ne (Or.inr (hw _ (List.mem_of_getElem? (i := 32) rfl))) (Or.inr (hw _ (List.mem_of_getElem? (i := 17) rfl))) (by decide) (t := (.array .int)) (t' := (.array .double)) (by decide) (by decide)))
  have F114 : Fld Z h105 o0 "com/example/torino/torino/AbsorbingChain" "entryMarks" "[I" .null := F95.other W106 (Or.inr (slot_ne (Or.inr (hw _ (List.mem_of_getElem? (i := 34) rfl))) (Or.inr (hw _ (List.mem_of_getElem? (i := 17) rfl))) (by decide) (t := (.array .int)) (t' := (.array .double)) (by decide) (by decide)))
  have F115 : Fld Z h105 o0 "com/example/torino/torino/AbsorbingChain" "entries" "[I" .null := F96.other W106 (Or.inr (slot_ne (Or.inr (hw _ (List.mem_of_getElem? (i := 36) rfl))) (Or.inr (hw _ (List.mem_of_getElem? (i := 17) rfl))) (by decide) (t := (.array .int)) (t' := (.array .double)) (by decide) (by decide)))
  have F116 : Fld Z h105 o0 "com/example/torino/torino/AbsorbingChain" "markedRow" "I" (.int (-1 : Int32)) := F97.other W106 (Or.inr (slot_ne (Or.inl (hw _ (List.mem_of_getElem? (i := 10) rfl))) (Or.inr (hw _ (List.mem_of_getElem? (i := 17) rfl))) (by decide) (t := .int) (t' := (.array .double)) (by decide) (by decide)))
  have F117 : Fld Z h105 o0 "com/example/torino/torino/AbsorbingChain" "size" "I" (.int (2 : Int32)) := F98.other W106 (Or.inr (slot_ne (Or.inr (hw _ (List.mem_of_getElem? (i := 12) rfl))) (Or.inr (hw _ (List.mem_of_getElem? (i := 17) rfl))) (by decide) (t := .int) (t' := (.array .double)) (by decide) (by decide)))
  have F118 : Exa Z h105 b36 "[D" := F99.wr W106
  have F119 : Fa Z h105 b36 .double 2 (fun _ => (.double (0 : UInt64))) := F100.other W106 (Ne.symm ne41)
  have F120 : Fld Z h105 o0 "com/example/torino/torino/AbsorbingChain" "exitProbabilities" "[D" (.ref b36) := F101.other W106 (Or.inr (slot_ne (Or.inr (hw _ (List.mem_of_getElem? (i := 15) rfl))) (Or.inr (hw _ (List.mem_of_getElem? (i := 17) rfl))) (by decide) (t := (.array .double)) (t' := (.array .double)) (by decide) (by decide)))
  have F121 : Exa Z h105 b79 "[D" := A82.wr W106
  have F122 : Fa Z h105 b79 .double 2 (fun _ => (.double (0 : UInt64))) := F83.other W106 (Ne.symm ne84)
  have sz123 : n0 ≤ h105.size := Nat.le_trans sz102 (Nat.le_of_eq W106.size.symm)
  have sy124 : h0.size ≤ h105.size := Nat.le_trans sy103 (Nat.le_of_eq W106.size.symm)
  have K125 := K104.wr W106 (Or.inl (by simp))
  show Wk _ p l e _ s m _ below meth c n0 _ h105 2 4 (mkF m 28 #[.val (.ref o0), .val (.int (2 : Int32)), .unset] [])
  refine Wk.st (g' := (mkF m 29 #[.val (.ref o0), .val (.int (2 : Int32)), .unset] [(.ref o0)])) (fun X t q => XS.aloadN X.here C.hx rfl (hb C.hby d1_28) rfl rfl q) ?_
  refine Wk.st (g' := (mkF m 30 #[.val (.ref o0), .val (.int (2 : Int32)), .unset] [(.int (2 : Int32)), (.ref o0)])) (fun X t q => XS.iloadN X.here C.hx rfl (hb C.hby d1_29) rfl q) ?_
  refine Wk.fNewA C (ty := .int) (K := "[I") (N := 2) (ad := "[[I") (by decide) (hw _ (List.mem_of_getElem? (i := 18) rfl)) (hw _ (List.mem_of_getElem? (i := 19) rfl)) (by decide) (by decide) (by decide) (cap := 2) (by decide) (by decide) d1_30 (by decide) (by decide) ?_
  intro h126 b127 g128 E129 A130 F131
  have ne132 : o0 ≠ b127 := Nat.ne_of_lt (Nat.lt_of_lt_of_le F108.lt (Nat.le_of_eq g128.symm))
  have ne133 : b36 ≠ b127 := Nat.ne_of_lt (Nat.lt_of_lt_of_le F118.lt (Nat.le_of_eq g128.symm))
  have ne134 : b79 ≠ b127 := Nat.ne_of_lt (Nat.lt_of_lt_of_le F121.lt (Nat.le_of_eq g128.symm))
  have ge135 : n0 ≤ b127 := Nat.le_trans sz123 (Nat.le_of_eq g128.symm)
  have gz136 : h0.size ≤ b127 := Nat.le_trans sy124 (Nat.le_of_eq g128.symm)
  have F137 : Exa Z h126 o0 "com/example/torino/torino/AbsorbingChain" := F108.ext E129
  have F138 : Fld Z h126 o0 "com/example/torino/torino/AbsorbingChain" "nexts" "[[I" .null := F109.ext E129
  have F139 : Fld Z h126 o0 "com/example/torino/torino/AbsorbingChain" "probabilities" "[[D" .null := F110.ext E129
  have F140 : Fld Z h126 o0 "com/example/torino/torino/AbsorbingChain" "lengths" "[I" .null := F111.ext E129
  have F141 : Fld Z h126 o0 "com/example/torino/torino/AbsorbingChain" "predecessors" "[[I" .null := F112.ext E129
  have F142 : Fld Z h126 o0 "com/example/torino/torino/AbsorbingChain" "predecessorCounts" "[I" .null := F113.ext E129
  have F143 : Fld Z h126 o0 "com/example/torino/torino/AbsorbingChain" "entryMarks" "[I" .null := F114.ext E129
  have F144 : Fld Z h126 o0 "com/example/torino/torino/AbsorbingChain" "entries" "[I" .null := F115.ext E129
  have F145 : Fld Z h126 o0 "com/example/torino/torino/AbsorbingChain" "markedRow" "I" (.int (-1 : Int32)) := F116.ext E129
  have F146 : Fld Z h126 o0 "com/example/torino/torino/AbsorbingChain" "size" "I" (.int (2 : Int32)) := F117.ext E129
  have F147 : Exa Z h126 b36 "[D" := F118.ext E129
  have F148 : Fa Z h126 b36 .double 2 (fun _ => (.double (0 : UInt64))) := F119.ext E129
  have F149 : Fld Z h126 o0 "com/example/torino/torino/AbsorbingChain" "exitProbabilities" "[D" (.ref b36) := F120.ext E129
  have F150 : Exa Z h126 b79 "[D" := F121.ext E129
  have F151 : Fa Z h126 b79 .double 2 (fun _ => (.double (0 : UInt64))) := F122.ext E129
  have F152 : Fld Z h126 o0 "com/example/torino/torino/AbsorbingChain" "exitValues" "[D" (.ref b79) := F107.ext E129
  have sz153 : n0 ≤ h126.size := Nat.le_trans sz123 E129.1
  have sy154 : h0.size ≤ h126.size := Nat.le_trans sy124 E129.1
  have K155 := K125.ext E129
  show Wk _ p l e _ s m _ below meth c n0 _ h126 3 6 (mkF m 33 #[.val (.ref o0), .val (.int (2 : Int32)), .unset] [(.ref b127), (.ref o0)])
  refine Wk.putF C (hw _ (List.mem_of_getElem? (i := 20) rfl)) Via.refl F138 F137 (Or.inr ⟨(hw _ (List.mem_of_getElem? (i := 21) rfl)), rfl, rfl⟩) (hw _ (List.mem_of_getElem? (i := 1) rfl)) (ty := (.array (.array .int))) (by decide) (v' := (.ref b127)) rfl rfl G_o0 d1_33 ?_
  intro h156 W157
  have F158 : Fld Z h156 o0 "com/example/torino/torino/AbsorbingChain" "nexts" "[[I" (.ref b127) := F138.same W157
  have F159 : Exa Z h156 o0 "com/example/torino/torino/AbsorbingChain" := F137.wr W157
  have F160 : Fld Z h156 o0 "com/example/torino/torino/AbsorbingChain" "probabilities" "[[D" .null := F139.other W157 (Or.inr (slot_ne (Or.inr (hw _ (List.mem_of_getElem? (i := 25) rfl))) (Or.inr (hw _ (List.mem_of_getElem? (i := 21) rfl))) (by decide) (t := (.array (.array .double))) (t' := (.array (.array .int))) (by decide) (by decide)))
  have F161 : Fld Z h156 o0 "com/example/torino/torino/AbsorbingChain" "lengths" "[I" .null := F140.other W157 (Or.inr (slot_ne (Or.inr (hw _ (List.mem_of_getElem? (i := 28) rfl))) (Or.inr (hw _ (List.mem_of_getElem? (i := 21) rfl))) (by decide) (t := (.array .int)) (t' := (.array (.array .int))) (by decide) (by decide)))
  have F162 : Fld Z h156 o0 "com/example/torino/torino/AbsorbingChain" "predecessors" "[[I" .null := F141.other W157 (Or.inr (slot_ne (Or.inr (hw _ (List.mem_of_getElem? (i := 30) rfl))) (Or.inr (hw _ (List.mem_of_getElem? (i := 21) rfl))) (by decide) (t := (.array (.array .int))) (t' := (.array (.array .int))) (by decide) (by decide)))
  have F163 : Fld Z h156 o0 "com/example/torino/torino/AbsorbingChain" "predecessorCounts" "[I" .null := F142.other W157 (Or.inr (slot_ne (Or.inr (hw _ (List.mem_of_getElem? (i := 32) rfl))) (Or.inr (hw _ (List.mem_of_getElem? (i := 21) rfl))) (by decide) (t := (.array .int)) (t' := (.array (.array .int))) (by decide) (by decide)))
  have F164 : Fld Z h156 o0 "com/example/torino/torino/AbsorbingChain" "entryMarks" "[I" .null := F143.other W157 (Or.inr (slot_ne (Or.inr (hw _ (List.mem_of_getElem? (i := 34) rfl))) (Or.inr (hw _ (List.mem_of_getElem? (i := 21) rfl))) (by decide) (t := (.array .int)) (t' := (.array (.array .int))) (by decide) (by decide)))
  have F165 : Fld Z h156 o0 "com/example/torino/torino/AbsorbingChain" "entries" "[I" .null := F144.other W157 (Or.inr (slot_ne (Or.inr (hw _ (List.mem_of_getElem? (i := 36) rfl))) (Or.inr (hw _ (List.mem_of_getElem? (i := 21) rfl))) (by decide) (t := (.array .int)) (t' := (.array (.array .int))) (by decide) (by decide)))
  have F166 : Fld Z h156 o0 "com/example/torino/torino/AbsorbingChain" "markedRow" "I" (.int (-1 : Int32)) := F145.other W157 (Or.inr (slot_ne (Or.inl (hw _ (List.mem_of_getElem? (i := 10) rfl))) (Or.inr (hw _ (List.mem_of_getElem? (i := 21) rfl))) (by decide) (t := .int) (t' := (.array (.array .int))) (by decide) (by decide)))
  have F167 : Fld Z h156 o0 "com/example/torino/torino/AbsorbingChain" "size" "I" (.int (2 : Int32)) := F146.other W157 (Or.inr (slot_ne (Or.inr (hw _ (List.mem_of_getElem? (i := 12) rfl))) (Or.inr (hw _ (List.mem_of_getElem? (i := 21) rfl))) (by decide) (t := .int) (t' := (.array (.array .int))) (by decide) (by decide)))
  have F168 : Exa Z h156 b36 "[D" := F147.wr W157
  have F169 : Fa Z h156 b36 .double 2 (fun _ => (.double (0 : UInt64))) := F148.other W157 (Ne.symm ne41)
  have F170 : Fld Z h156 o0 "com/example/torino/torino/AbsorbingChain" "exitProbabilities" "[D" (.ref b36) := F149.other W157 (Or.inr (slot_ne (Or.inr (hw _ (List.mem_of_getElem? (i := 15) rfl))) (Or.inr (hw _ (List.mem_of_getElem? (i := 21) rfl))) (by decide) (t := (.array .double)) (t' := (.array (.array .int))) (by decide) (by decide)))
  have F171 : Exa Z h156 b79 "[D" := F150.wr W157
  have F172 : Fa Z h156 b79 .double 2 (fun _ => (.double (0 : UInt64))) := F151.other W157 (Ne.symm ne84)
  have F173 : Fld Z h156 o0 "com/example/torino/torino/AbsorbingChain" "exitValues" "[D" (.ref b79) := F152.other W157 (Or.inr (slot_ne (Or.inr (hw _ (List.mem_of_getElem? (i := 17) rfl))) (Or.inr (hw _ (List.mem_of_getElem? (i := 21) rfl))) (by decide) (t := (.array .double)) (t' := (.array (.array .int))) (by decide) (by decide)))
  have F174 : Exa Z h156 b127 "[[I" := A130.wr W157
  have F175 : FaA Z h156 b127 .int "[I" 2 (fun _ => .null) := F131.other W157 (Ne.symm ne132)
  have sz176 : n0 ≤ h156.size := Nat.le_trans sz153 (Nat.le_of_eq W157.size.symm)
  have sy177 : h0.size ≤ h156.size := Nat.le_trans sy154 (Nat.le_of_eq W157.size.symm)
  have K178 := K155.wr W157 (Or.inl (by simp))
  show Wk _ p l e _ s m _ below meth c n0 _ h156 3 6 (mkF m 36 #[.val (.ref o0), .val (.int (2 : Int32)), .unset] [])
  refine Wk.st (g' := (mkF m 37 #[.val (.ref o0), .val (.int (2 : Int32)), .unset] [(.ref o0)])) (fun X t q => XS.aloadN X.here C.hx rfl (hb C.hby d1_36) rfl rfl q) ?_
  refine Wk.st (g' := (mkF m 38 #[.val (.ref o0), .val (.int (2 : Int32)), .unset] [(.int (2 : Int32)), (.ref o0)])) (fun X t q => XS.iloadN X.here C.hx rfl (hb C.hby d1_37) rfl q) ?_
  refine Wk.fNewA C (ty := .double) (K := "[D") (N := 2) (ad := "[[D") (by decide) (hw _ (List.mem_of_getElem? (i := 22) rfl)) (hw _ (List.mem_of_getElem? (i := 23) rfl)) (by decide) (by decide) (by decide) (cap := 2) (by decide) (by decide) d1_38 (by decide) (by decide) ?_
  intro h179 b180 g181 E182 A183 F184
  have ne185 : o0 ≠ b180 := Nat.ne_of_lt (Nat.lt_of_lt_of_le F159.lt (Nat.le_of_eq g181.symm))
  have ne186 : b36 ≠ b180 := Nat.ne_of_lt (Nat.lt_of_lt_of_le F168.lt (Nat.le_of_eq g181.symm))
  have ne187 : b79 ≠ b180 := Nat.ne_of_lt (Nat.lt_of_lt_of_le F171.lt (Nat.le_of_eq g181.symm))
  have ne188 : b127 ≠ b180 := Nat.ne_of_lt (Nat.lt_of_lt_of_le F174.lt (Nat.le_of_eq g181.symm))
  have ge189 : n0 ≤ b180 := Nat.le_trans sz176 (Nat.le_of_eq g181.symm)
  have gz190 : h0.size ≤ b180 := Nat.le_trans sy177 (Nat.le_of_eq g181.symm)
  have F191 : Exa Z h179 o0 "com/example/torino/torino/AbsorbingChain" := F159.ext E182
  have F192 : Fld Z h179 o0 "com/example/torino/torino/AbsorbingChain" "probabilities" "[[D" .null := F160.ext E182
  have F193 : Fld Z h179 o0 "com/example/torino/torino/AbsorbingChain" "lengths" "[I" .null := F161.ext E182
  have F194 : Fld Z h179 o0 "com/example/torino/torino/AbsorbingChain" "predecessors" "[[I" .null := F162.ext E182
  have F195 : Fld Z h179 o0 "com/example/torino/torino/AbsorbingChain" "predecessorCounts" "[I" .null := F163.ext E182
  have F196 : Fld Z h179 o0 "com/example/torino/torino/AbsorbingChain" "entryMarks" "[I" .null := F164.ext E182
  have F197 : Fld Z h179 o0 "com/example/torino/torino/AbsorbingChain" "entries" "[I" .null := F165.ext E182
  have F198 : Fld Z h179 o0 "com/example/torino/torino/AbsorbingChain" "markedRow" "I" (.int (-1 : Int32)) := F166.ext E182
  have F199 : Fld Z h179 o0 "com/example/torino/torino/AbsorbingChain" "size" "I" (.int (2 : Int32)) := F167.ext E182
  have F200 : Exa Z h179 b36 "[D" := F168.ext E182
  have F201 : Fa Z h179 b36 .double 2 (fun _ => (.double (0 : UInt64))) := F169.ext E182
  have F202 : Fld Z h179 o0 "com/example/torino/torino/AbsorbingChain" "exitProbabilities" "[D" (.ref b36) := F170.ext E182
  have F203 : Exa Z h179 b79 "[D" := F171.ext E182
  have F204 : Fa Z h179 b79 .double 2 (fun _ => (.double (0 : UInt64))) := F172.ext E182
  have F205 : Fld Z h179 o0 "com/example/torino/torino/AbsorbingChain" "exitValues" "[D" (.ref b79) := F173.ext E182
  have F206 : Exa Z h179 b127 "[[I" := F174.ext E182
  have F207 : FaA Z h179 b127 .int "[I" 2 (fun _ => .null) := F175.ext E182
  have F208 : Fld Z h179 o0 "com/example/torino/torino/AbsorbingChain" "nexts" "[[I" (.ref b127) := F158.ext E182
  have sz209 : n0 ≤ h179.size := Nat.le_trans sz176 E182.1
  have sy210 : h0.size ≤ h179.size := Nat.le_trans sy177 E182.1
  have K211 := K178.ext E182
  show Wk _ p l e _ s m _ below meth c n0 _ h179 4 8 (mkF m 41 #[.val (.ref o0), .val (.int (2 : Int32)), .unset] [(.ref b180), (.ref o0)])
  refine Wk.putF C (hw _ (List.mem_of_getElem? (i := 24) rfl)) Via.refl F192 F191 (Or.inr ⟨(hw _ (List.mem_of_getElem? (i := 25) rfl)), rfl, rfl⟩) (hw _ (List.mem_of_getElem? (i := 1) rfl)) (ty := (.array (.array .double))) (by decide) (v' := (.ref b180)) rfl rfl G_o0 d1_41 ?_
  intro h212 W213
  have F214 : Fld Z h212 o0 "com/example/torino/torino/AbsorbingChain" "probabilities" "[[D" (.ref b180) := F192.same W213
  have F215 : Exa Z h212 o0 "com/example/torino/torino/AbsorbingChain" := F191.wr W213
  have F216 : Fld Z h212 o0 "com/example/torino/torino/AbsorbingChain" "lengths" "[I" .null := F193.other W213 (Or.inr (slot_ne (Or.inr (hw _ (List.mem_of_getElem? (i := 28) rfl))) (Or.inr (hw _ (List.mem_of_getElem? (i := 25) rfl))) (by decide) (t := (.array .int)) (t' := (.array (.array .double))) (by decide) (by decide)))
  have F217 : Fld Z h212 o0 "com/example/torino/torino/AbsorbingChain" "predecessors" "[[I" .null := F194.other W213 (Or.inr (slot_ne (Or.inr (hw _ (List.mem_of_getElem? (i := 30) rfl))) (Or.inr (hw _ (List.mem_of_getElem? (i := 25) rfl))) (by decide) (t := (.array (.array .int))) (t' := (.array (.array .double))) (by decide) (by decide)))
  have F218 : Fld Z h212 o0 "com/example/torino/torino/AbsorbingChain" "predecessorCounts" "[I" .null := F195.other W213 (Or.inr (slot_ne (Or.inr (hw _ (List.mem_of_getElem? (i := 32) rfl))) (Or.inr (hw _ (List.mem_of_getElem? (i := 25) rfl))) (by decide) (t := (.array .int)) (t' := (.array (.array .double))) (by decide) (by decide)))
  have F219 : Fld Z h212 o0 "com/example/torino/torino/AbsorbingChain" "entryMarks" "[I" .null := F196.other W213 (Or.inr (slot_ne (Or.inr (hw _ (List.mem_of_getElem? (i := 34) rfl))) (Or.inr (hw _ (List.mem_of_getElem? (i := 25) rfl))) (by decide) (t := (.array .int)) (t' := (.array (.array .double))) (by decide) (by decide)))
  have F220 : Fld Z h212 o0 "com/example/torino/torino/AbsorbingChain" "entries" "[I" .null := F197.other W213 (Or.inr (slot_ne (Or.inr (hw _ (List.mem_of_getElem? (i := 36) rfl))) (Or.inr (hw _ (List.mem_of_getElem? (i := 25) rfl))) (by decide) (t := (.array .int)) (t' := (.array (.array .double))) (by decide) (by decide)))
  have F221 : Fld Z h212 o0 "com/example/torino/torino/AbsorbingChain" "markedRow" "I" (.int (-1 : Int32)) := F198.other W213 (Or.inr (slot_ne (Or.inl (hw _ (List.mem_of_getElem? (i := 10) rfl))) (Or.inr (hw _ (List.mem_of_getElem? (i := 25) rfl))) (by decide) (t := .int) (t' := (.array (.array .double))) (by decide) (by decide)))
  have F222 : Fld Z h212 o0 "com/example/torino/torino/AbsorbingChain" "size" "I" (.int (2 : Int32)) := F199.other W213 (Or.inr (slot_ne (Or.inr (hw _ (List.mem_of_getElem? (i := 12) rfl))) (Or.inr (hw _ (List.mem_of_getElem? (i := 25) rfl))) (by decide) (t := .int) (t' := (.array (.array .double))) (by decide) (by decide)))
  have F223 : Exa Z h212 b36 "[D" := F200.wr W213
  have F224 : Fa Z h212 b36 .double 2 (fun _ => (.double (0 : UInt64))) := F201.other W213 (Ne.symm ne41)
  have F225 : Fld Z h212 o0 "com/example/torino/torino/AbsorbingChain" "exitProbabilities" "[D" (.ref b36) := F202.other W213 (Or.inr (slot_ne (Or.inr (hw _ (List.mem_of_getElem? (i := 15) rfl))) (Or.inr (hw _ (List.mem_of_getElem? (i := 25) rfl))) (by decide) (t := (.array .double)) (t' := (.array (.array .double))) (by decide) (by decide)))
  have F226 : Exa Z h212 b79 "[D" := F203.wr W213
  have F227 : Fa Z h212 b79 .double 2 (fun _ => (.double (0 : UInt64))) := F204.other W213 (Ne.symm ne84)
  have F228 : Fld Z h212 o0 "com/example/torino/torino/AbsorbingChain" "exitValues" "[D" (.ref b79) := F205.other W213 (Or.inr (slot_ne (Or.inr (hw _ (List.mem_of_getElem? (i := 17) rfl))) (Or.inr (hw _ (List.mem_of_getElem? (i := 25) rfl))) (by decide) (t := (.array .double)) (t' := (.array (.array .double))) (by decide) (by decide)))
  have F229 : Exa Z h212 b127 "[[I" := F206.wr W213
  have F230 : FaA Z h212 b127 .int "[I" 2 (fun _ => .null) := F207.other W213 (Ne.symm ne132)
  have F231 : Fld Z h212 o0 "com/example/torino/torino/AbsorbingChain" "nexts" "[[I" (.ref b127) := F208.other W213 (Or.inr (slot_ne (Or.inr (hw _ (List.mem_of_getElem? (i := 21) rfl))) (Or.inr (hw _ (List.mem_of_getElem? (i := 25) rfl))) (by decide) (t := (.array (.array .int))) (t' := (.array (.array .double))) (by decide) (by decide)))
  have F232 : Exa Z h212 b180 "[[D" := A183.wr W213
  have F233 : FaA Z h212 b180 .double "[D" 2 (fun _ => .null) := F184.other W213 (Ne.symm ne185)
  have sz234 : n0 ≤ h212.size := Nat.le_trans sz209 (Nat.le_of_eq W213.size.symm)
  have sy235 : h0.size ≤ h212.size := Nat.le_trans sy210 (Nat.le_of_eq W213.size.symm)
  have K236 := K211.wr W213 (Or.inl (by simp))
  show Wk _ p l e _ s m _ below meth c n0 _ h212 4 8 (mkF m 44 #[.val (.ref o0), .val (.int (2 : Int32)), .unset] [])
  refine Wk.st (g' := (mkF m 45 #[.val (.ref o0), .val (.int (2 : Int32)), .unset] [(.ref o0)])) (fun X t q => XS.aloadN X.here C.hx rfl (hb C.hby d1_44) rfl rfl q) ?_
  refine Wk.st (g' := (mkF m 46 #[.val (.ref o0), .val (.int (2 : Int32)), .unset] [(.int (2 : Int32)), (.ref o0)])) (fun X t q => XS.iloadN X.here C.hx rfl (hb C.hby d1_45) rfl q) ?_
  refine Wk.fNewP C (hw _ (List.mem_of_getElem? (i := 26) rfl)) (ty := .int) (dv := (.int (0 : Int32))) (N := 2) (ad := "[I") rfl rfl (by decide) (by decide) (by decide) (cap := 2) (by decide) (by decide) d1_46 (by decide) (by decide) ?_
  intro h237 b238 g239 E240 A241 F242
  have ne243 : o0 ≠ b238 := Nat.ne_of_lt (Nat.lt_of_lt_of_le F215.lt (Nat.le_of_eq g239.symm))
  have ne244 : b36 ≠ b238 := Nat.ne_of_lt (Nat.lt_of_lt_of_le F223.lt (Nat.le_of_eq g239.symm))
  have ne245 : b79 ≠ b238 := Nat.ne_of_lt (Nat.lt_of_lt_of_le F226.lt (Nat.le_of_eq g239.symm))
  have ne246 : b127 ≠ b238 := Nat.ne_of_lt (Nat.lt_of_lt_of_le F229.lt (Nat.le_of_eq g239.symm))
  have ne247 : b180 ≠ b238 := Nat.ne_of_lt (Nat.lt_of_lt_of_le F232.lt (Nat.le_of_eq g239.symm))
  have ge248 : n0 ≤ b238 := Nat.le_trans sz234 (Nat.le_of_eq g239.symm)
  have gz249 : h0.size ≤ b238 := Nat.le_trans sy235 (Nat.le_of_eq g239.symm)
  have F250 : Exa Z h237 o0 "com/example/torino/torino/AbsorbingChain" := F215.ext E240
  have F251 : Fld Z h237 o0 "com/example/torino/torino/AbsorbingChain" "lengths" "[I" .null := F216.ext E240
  have F252 : Fld Z h237 o0 "com/example/torino/torino/AbsorbingChain" "predecessors" "[[I" .null := F217.ext E240
  have F253 : Fld Z h237 o0 "com/example/torino/torino/AbsorbingChain" "predecessorCounts" "[I" .null := F218.ext E240
  have F254 : Fld Z h237 o0 "com/example/torino/torino/AbsorbingChain" "entryMarks" "[I" .null := F219.ext E240
  have F255 : Fld Z h237 o0 "com/example/torino/torino/AbsorbingChain" "entries" "[I" .null := F220.ext E240
  have F256 : Fld Z h237 o0 "com/example/torino/torino/AbsorbingChain" "markedRow" "I" (.int (-1 : Int32)) := F221.ext E240
  have F257 : Fld Z h237 o0 "com/example/torino/torino/AbsorbingChain" "size" "I" (.int (2 : Int32)) := F222.ext E240
  have F258 : Exa Z h237 b36 "[D" := F223.ext E240
  have F259 : Fa Z h237 b36 .double 2 (fun _ => (.double (0 : UInt64))) := F224.ext E240
  have F260 : Fld Z h237 o0 "com/example/torino/torino/AbsorbingChain" "exitProbabilities" "[D" (.ref b36) := F225.ext E240
  have F261 : Exa Z h237 b79 "[D" := F226.ext E240
  have F262 : Fa Z h237 b79 .double 2 (fun _ => (.double (0 : UInt64))) := F227.ext E240
  have F263 : Fld Z h237 o0 "com/example/torino/torino/AbsorbingChain" "exitValues" "[D" (.ref b79) := F228.ext E240
  have F264 : Exa Z h237 b127 "[[I" := F229.ext E240
  have F265 : FaA Z h237 b127 .int "[I" 2 (fun _ => .null) := F230.ext E240
  have F266 : Fld Z h237 o0 "com/example/torino/torino/AbsorbingChain" "nexts" "[[I" (.ref b127) := F231.ext E240
  have F267 : Exa Z h237 b180 "[[D" := F232.ext E240
  have F268 : FaA Z h237 b180 .double "[D" 2 (fun _ => .null) := F233.ext E240
  have F269 : Fld Z h237 o0 "com/example/torino/torino/AbsorbingChain" "probabilities" "[[D" (.ref b180) := F214.ext E240
  have sz270 : n0 ≤ h237.size := Nat.le_trans sz234 E240.1
  have sy271 : h0.size ≤ h237.size := Nat.le_trans sy235 E240.1
  have K272 := K236.ext E240
  show Wk _ p l e _ s m _ below meth c n0 _ h237 5 10 (mkF m 48 #[.val (.ref o0), .val (.int (2 : Int32)), .unset] [(.ref b238), (.ref o0)])
  refine Wk.putF C (hw _ (List.mem_of_getElem? (i := 27) rfl)) Via.refl F251 F250 (Or.inr ⟨(hw _ (List.mem_of_getElem? (i := 28) rfl)), rfl, rfl⟩) (hw _ (List.mem_of_getElem? (i := 1) rfl)) (ty := (.array .int)) (by decide) (v' := (.ref b238)) rfl rfl G_o0 d1_48 ?_
  intro h273 W274
  have F275 : Fld Z h273 o0 "com/example/torino/torino/AbsorbingChain" "lengths" "[I" (.ref b238) := F251.same W274
  have F276 : Exa Z h273 o0 "com/example/torino/torino/AbsorbingChain" := F250.wr W274
  have F277 : Fld Z h273 o0 "com/example/torino/torino/AbsorbingChain" "predecessors" "[[I" .null := F252.other W274 (Or.inr (slot_ne (Or.inr (hw _ (List.mem_of_getElem? (i := 30) rfl))) (Or.inr (hw _ (List.mem_of_getElem? (i := 28) rfl))) (by decide) (t := (.array (.array .int))) (t' := (.array .int)) (by decide) (by decide)))
  have F278 : Fld Z h273 o0 "com/example/torino/torino/AbsorbingChain" "predecessorCounts" "[I" .null := F253.other W274 (Or.inr (slot_ne (Or.inr (hw _ (List.mem_of_getElem? (i := 32) rfl))) (Or.inr (hw _ (List.mem_of_getElem? (i := 28) rfl))) (by decide) (t := (.array .int)) (t' := (.array .int)) (by decide) (by decide)))
  have F279 : Fld Z h273 o0 "com/example/torino/torino/AbsorbingChain" "entryMarks" "[I" .null := F254.other W274 (Or.inr (slot_ne (Or.inr (hw _ (List.mem_of_getElem? (i := 34) rfl))) (Or.inr (hw _ (List.mem_of_getElem? (i := 28) rfl))) (by decide) (t := (.array .int)) (t' := (.array .int)) (by decide) (by decide)))
  have F280 : Fld Z h273 o0 "com/example/torino/torino/AbsorbingChain" "entries" "[I" .null := F255.other W274 (Or.inr (slot_ne (Or.inr (hw _ (List.mem_of_getElem? (i := 36) rfl))) (Or.inr (hw _ (List.mem_of_getElem? (i := 28) rfl))) (by decide) (t := (.array .int)) (t' := (.array .int)) (by decide) (by decide)))
  have F281 : Fld Z h273 o0 "com/example/torino/torino/AbsorbingChain" "markedRow" "I" (.int (-1 : Int32)) := F256.other W274 (Or.inr (slot_ne (Or.inl (hw _ (List.mem_of_getElem? (i := 10) rfl))) (Or.inr (hw _ (List.mem_of_getElem? (i := 28) rfl))) (by decide) (t := .int) (t' := (.array .int)) (by decide) (by decide)))
  have F282 : Fld Z h273 o0 "com/example/torino/torino/AbsorbingChain" "size" "I" (.int (2 : Int32)) := F257.other W274 (Or.inr (slot_ne (Or.inr (hw _ (List.mem_of_getElem? (i := 12) rfl))) (Or.inr (hw _ (List.mem_of_getElem? (i := 28) rfl))) (by decide) (t := .int) (t' := (.array .int)) (by decide) (by decide)))
  have F283 : Exa Z h273 b36 "[D" := F258.wr W274
  have F284 : Fa Z h273 b36 .double 2 (fun _ => (.double (0 : UInt64))) := F259.other W274 (Ne.symm ne41)
  have F285 : Fld Z h273 o0 "com/example/torino/torino/AbsorbingChain" "exitProbabilities" "[D" (.ref b36) := F260.other W274 (Or.inr (slot_ne (Or.inr (hw _ (List.mem_of_getElem? (i := 15) rfl))) (Or.inr (hw _ (List.mem_of_getElem? (i := 28) rfl))) (by decide) (t := (.array .double)) (t' := (.array .int)) (by decide) (by decide)))
  have F286 : Exa Z h273 b79 "[D" := F261.wr W274
  have F287 : Fa Z h273 b79 .double 2 (fun _ => (.double (0 : UInt64))) := F262.other W274 (Ne.symm ne84)
  have F288 : Fld Z h273 o0 "com/example/torino/torino/AbsorbingChain" "exitValues" "[D" (.ref b79) := F263.other W274 (Or.inr (slot_ne (Or.inr (hw _ (List.mem_of_getElem? (i := 17) rfl))) (Or.inr (hw _ (List.mem_of_getElem? (i := 28) rfl))) (by decide) (t := (.array .double)) (t' := (.array .int)) (by decide) (by decide)))
  have F289 : Exa Z h273 b127 "[[I" := F264.wr W274
  have F290 : FaA Z h273 b127 .int "[I" 2 (fun _ => .null) := F265.other W274 (Ne.symm ne132)
  have F291 : Fld Z h273 o0 "com/example/torino/torino/AbsorbingChain" "nexts" "[[I" (.ref b127) := F266.other W274 (Or.inr (slot_ne (Or.inr (hw _ (List.mem_of_getElem? (i := 21) rfl))) (Or.inr (hw _ (List.mem_of_getElem? (i := 28) rfl))) (by decide) (t := (.array (.array .int))) (t' := (.array .int)) (by decide) (by decide)))
  have F292 : Exa Z h273 b180 "[[D" := F267.wr W274
  have F293 : FaA Z h273 b180 .double "[D" 2 (fun _ => .null) := F268.other W274 (Ne.symm ne185)
  have F294 : Fld Z h273 o0 "com/example/torino/torino/AbsorbingChain" "probabilities" "[[D" (.ref b180) := F269.other W274 (Or.inr (slot_ne (Or.inr (hw _ (List.mem_of_getElem? (i := 25) rfl))) (Or.inr (hw _ (List.mem_of_getElem? (i := 28) rfl))) (by decide) (t := (.array (.array .double))) (t' := (.array .int)) (by decide) (by decide)))
  have F295 : Exa Z h273 b238 "[I" := A241.wr W274
  have F296 : Fa Z h273 b238 .int 2 (fun _ => (.int (0 : Int32))) := F242.other W274 (Ne.symm ne243)
  have sz297 : n0 ≤ h273.size := Nat.le_trans sz270 (Nat.le_of_eq W274.size.symm)
  have sy298 : h0.size ≤ h273.size := Nat.le_trans sy271 (Nat.le_of_eq W274.size.symm)
  have K299 := K272.wr W274 (Or.inl (by simp))
  show Wk _ p l e _ s m _ below meth c n0 _ h273 5 10 (mkF m 51 #[.val (.ref o0), .val (.int (2 : Int32)), .unset] [])
  refine Wk.st (g' := (mkF m 52 #[.val (.ref o0), .val (.int (2 : Int32)), .unset] [(.ref o0)])) (fun X t q => XS.aloadN X.here C.hx rfl (hb C.hby d1_51) rfl rfl q) ?_
  refine Wk.st (g' := (mkF m 53 #[.val (.ref o0), .val (.int (2 : Int32)), .unset] [(.int (2 : Int32)), (.ref o0)])) (fun X t q => XS.iloadN X.here C.hx rfl (hb C.hby d1_52) rfl q) ?_
  refine Wk.fNewA C (ty := .int) (K := "[I") (N := 2) (ad := "[[I") (by decide) (hw _ (List.mem_of_getElem? (i := 18) rfl)) (hw _ (List.mem_of_getElem? (i := 19) rfl)) (by decide) (by decide) (by decide) (cap := 2) (by decide) (by decide) d1_53 (by decide) (by decide) ?_
  intro h300 b301 g302 E303 A304 F305
  have ne306 : o0 ≠ b301 := Nat.ne_of_lt (Nat.lt_of_lt_of_le F276.lt (Nat.le_of_eq g302.symm))
  have ne307 : b36 ≠ b301 := Nat.ne_of_lt (Nat.lt_of_lt_of_le F283.lt (Nat.le_of_eq g302.symm))
  have ne308 : b79 ≠ b301 := Nat.ne_of_lt (Nat.lt_of_lt_of_le F286.lt (Nat.le_of_eq g302.symm))
  have ne309 : b127 ≠ b301 := Nat.ne_of_lt (Nat.lt_of_lt_of_le F289.lt (Nat.le_of_eq g302.symm))
  have ne310 : b180 ≠ b301 := Nat.ne_of_lt (Nat.lt_of_lt_of_le F292.lt (Nat.le_of_eq g302.symm))
  have ne311 : b238 ≠ b301 := Nat.ne_of_lt (Nat.lt_of_lt_of_le F295.lt (Nat.le_of_eq g302.symm))
  have ge312 : n0 ≤ b301 := Nat.le_trans sz297 (Nat.le_of_eq g302.symm)
  have gz313 : h0.size ≤ b301 := Nat.le_trans sy298 (Nat.le_of_eq g302.symm)
  have F314 : Exa Z h300 o0 "com/example/torino/torino/AbsorbingChain" := F276.ext E303
  have F315 : Fld Z h300 o0 "com/example/torino/torino/AbsorbingChain" "predecessors" "[[I" .null := F277.ext E303
  have F316 : Fld Z h300 o0 "com/example/torino/torino/AbsorbingChain" "predecessorCounts" "[I" .null := F278.ext E303
  have F317 : Fld Z h300 o0 "com/example/torino/torino/AbsorbingChain" "entryMarks" "[I" .null := F279.ext E303
  have F318 : Fld Z h300 o0 "com/example/torino/torino/AbsorbingChain" "entries" "[I" .null := F280.ext E303
  have F319 : Fld Z h300 o0 "com/example/torino/torino/AbsorbingChain" "markedRow" "I" (.int (-1 : Int32)) := F281.ext E303
  have F320 : Fld Z h300 o0 "com/example/torino/torino/AbsorbingChain" "size" "I" (.int (2 : Int32)) := F282.ext E303
  have F321 : Exa Z h300 b36 "[D" := F283.ext E303
  have F322 : Fa Z h300 b36 .double 2 (fun _ => (.double (0 : UInt64))) := F284.ext E303
  have F323 : Fld Z h300 o0 "com/example/torino/torino/AbsorbingChain" "exitProbabilities" "[D" (.ref b36) := F285.ext E303
  have F324 : Exa Z h300 b79 "[D" := F286.ext E303
  have F325 : Fa Z h300 b79 .double 2 (fun _ => (.double (0 : UInt64))) := F287.ext E303
  have F326 : Fld Z h300 o0 "com/example/torino/torino/AbsorbingChain" "exitValues" "[D" (.ref b79) := F288.ext E303
  have F327 : Exa Z h300 b127 "[[I" := F289.ext E303
  have F328 : FaA Z h300 b127 .int "[I" 2 (fun _ => .null) := F290.ext E303
  have F329 : Fld Z h300 o0 "com/example/torino/torino/AbsorbingChain" "nexts" "[[I" (.ref b127) := F291.ext E303
  have F330 : Exa Z h300 b180 "[[D" := F292.ext E303
  have F331 : FaA Z h300 b180 .double "[D" 2 (fun _ => .null) := F293.ext E303
  have F332 : Fld Z h300 o0 "com/example/torino/torino/AbsorbingChain" "probabilities" "[[D" (.ref b180) := F294.ext E303
  have F333 : Exa Z h300 b238 "[I" := F295.ext E303
  have F334 : Fa Z h300 b238 .int 2 (fun _ => (.int (0 : Int32))) := F296.ext E303
  have F335 : Fld Z h300 o0 "com/example/torino/torino/AbsorbingChain" "lengths" "[I" (.ref b238) := F275.ext E303
  have sz336 : n0 ≤ h300.size := Nat.le_trans sz297 E303.1
  have sy337 : h0.size ≤ h300.size := Nat.le_trans sy298 E303.1
  have K338 := K299.ext E303
  show Wk _ p l e _ s m _ below meth c n0 _ h300 6 12 (mkF m 56 #[.val (.ref o0), .val (.int (2 : Int32)), .unset] [(.ref b301), (.ref o0)])
  refine Wk.putF C (hw _ (List.mem_of_getElem? (i := 29) rfl)) Via.refl F315 F314 (Or.inr ⟨(hw _ (List.mem_of_getElem? (i := 30) rfl)), rfl, rfl⟩) (hw _ (List.mem_of_getElem? (i := 1) rfl)) (ty := (.array (.array .int))) (by decide) (v' := (.ref b301)) rfl rfl G_o0 d1_56 ?_
  intro h339 W340
  have F341 : Fld Z h339 o0 "com/example/torino/torino/AbsorbingChain" "predecessors" "[[I" (.ref b301) := F315.same W340
  have F342 : Exa Z h339 o0 "com/example/torino/torino/AbsorbingChain" := F314.wr W340
  have F343 : Fld Z h339 o0 "com/example/torino/torino/AbsorbingChain" "predecessorCounts" "[I" .null := F316.other W340 (Or.inr (slot_ne (Or.inr (hw _ (List.mem_of_getElem? (i := 32) rfl))) (Or.inr (hw _ (List.mem_of_getElem? (i := 30) rfl))) (by decide) (t := (.array .int)) (t' := (.array (.array .int))) (by decide) (by decide)))
  have F344 : Fld Z h339 o0 "com/example/torino/torino/AbsorbingChain" "entryMarks" "[I" .null := F317.other W340 (Or.inr (slot_ne (Or.inr (hw _ (List.mem_of_getElem? (i := 34) rfl))) (Or.inr (hw _ (List.mem_of_getElem? (i := 30) rfl))) (by decide) (t := (.array .int)) (t' := (.array (.array .int))) (by decide) (by decide)))
  have F345 : Fld Z h339 o0 "com/example/torino/torino/AbsorbingChain" "entries" "[I" .null := F318.other W340 (Or.inr (slot_ne (Or.inr (hw _ (List.mem_of_getElem? (i := 36) rfl))) (Or.inr (hw _ (List.mem_of_getElem? (i := 30) rfl))) (by decide) (t := (.array .int)) (t' := (.array (.array .int))) (by decide) (by decide)))
  have F346 : Fld Z h339 o0 "com/example/torino/torino/AbsorbingChain" "markedRow" "I" (.int (-1 : Int32)) := F319.other W340 (Or.inr (slot_ne (Or.inl (hw _ (List.mem_of_getElem? (i := 10) rfl))) (Or.inr (hw _ (List.mem_of_getElem? (i := 30) rfl))) (by decide) (t := .int) (t' := (.array (.array .int))) (by decide) (by decide)))
  have F347 : Fld Z h339 o0 "com/example/torino/torino/AbsorbingChain" "size" "I" (.int (2 : Int32)) := F320.other W340 (Or.inr (slot_ne (Or.inr (hw _ (List.mem_of_getElem? (i := 12) rfl))) (Or.inr (hw _ (List.mem_of_getElem? (i := 30) rfl))) (by decide) (t := .int) (t' := (.array (.array .int))) (by decide) (by decide)))
  have F348 : Exa Z h339 b36 "[D" := F321.wr W340
  have F349 : Fa Z h339 b36 .double 2 (fun _ => (.double (0 : UInt64))) := F322.other W340 (Ne.symm ne41)
  have F350 : Fld Z h339 o0 "com/example/torino/torino/AbsorbingChain" "exitProbabilities" "[D" (.ref b36) := F323.other W340 (Or.inr (slot_ne (Or.inr (hw _ (List.mem_of_getElem? (i := 15) rfl))) (Or.inr (hw _ (List.mem_of_getElem? (i := 30) rfl))) (by decide) (t := (.array .double)) (t' := (.array (.array .int))) (by decide) (by decide)))
  have F351 : Exa Z h339 b79 "[D" := F324.wr W340
  have F352 : Fa Z h339 b79 .double 2 (fun _ => (.double (0 : UInt64))) := F325.other W340 (Ne.symm ne84)
  have F353 : Fld Z h339 o0 "com/example/torino/torino/AbsorbingChain" "exitValues" "[D" (.ref b79) := F326.other W340 (Or.inr (slot_ne (Or.inr (hw _ (List.mem_of_getElem? (i := 17) rfl))) (Or.inr (hw _ (List.mem_of_getElem? (i := 30) rfl))) (by decide) (t := (.array .double)) (t' := (.array (.array .int))) (by decide) (by decide)))
  have F354 : Exa Z h339 b127 "[[I" := F327.wr W340
  have F355 : FaA Z h339 b127 .int "[I" 2 (fun _ => .null) := F328.other W340 (Ne.symm ne132)
  have F356 : Fld Z h339 o0 "com/example/torino/torino/AbsorbingChain" "nexts" "[[I" (.ref b127) := F329.other W340 (Or.inr (slot_ne (Or.inr (hw _ (List.mem_of_getElem? (i := 21) rfl))) (Or.inr (hw _ (List.mem_of_getElem? (i := 30) rfl))) (by decide) (t := (.array (.array .int))) (t' := (.array (.array .int))) (by decide) (by decide)))
  have F357 : Exa Z h339 b180 "[[D" := F330.wr W340
  have F358 : FaA Z h339 b180 .double "[D" 2 (fun _ => .null) := F331.other W340 (Ne.symm ne185)
  have F359 : Fld Z h339 o0 "com/example/torino/torino/AbsorbingChain" "probabilities" "[[D" (.ref b180) := F332.other W340 (Or.inr (slot_ne (Or.inr (hw _ (List.mem_of_getElem? (i := 25) rfl))) (Or.inr (hw _ (List.mem_of_getElem? (i := 30) rfl))) (by decide) (t := (.array (.array .double))) (t' := (.array (.array .int))) (by decide) (by decide)))
  have F360 : Exa Z h339 b238 "[I" := F333.wr W340
  have F361 : Fa Z h339 b238 .int 2 (fun _ => (.int (0 : Int32))) := F334.other W340 (Ne.symm ne243)
  have F362 : Fld Z h339 o0 "com/example/torino/torino/AbsorbingChain" "lengths" "[I" (.ref b238) := F335.other W340 (Or.inr (slot_ne (Or.inr (hw _ (List.mem_of_getElem? (i := 28) rfl))) (Or.inr (hw _ (List.mem_of_getElem? (i := 30) rfl))) (by decide) (t := (.array .int)) (t' := (.array (.array .int))) (by decide) (by decide)))
  have F363 : Exa Z h339 b301 "[[I" := A304.wr W340
  have F364 : FaA Z h339 b301 .int "[I" 2 (fun _ => .null) := F305.other W340 (Ne.symm ne306)
  have sz365 : n0 ≤ h339.size := Nat.le_trans sz336 (Nat.le_of_eq W340.size.symm)
  have sy366 : h0.size ≤ h339.size := Nat.le_trans sy337 (Nat.le_of_eq W340.size.symm)
  have K367 := K338.wr W340 (Or.inl (by simp))
  show Wk _ p l e _ s m _ below meth c n0 _ h339 6 12 (mkF m 59 #[.val (.ref o0), .val (.int (2 : Int32)), .unset] [])
  refine Wk.st (g' := (mkF m 60 #[.val (.ref o0), .val (.int (2 : Int32)), .unset] [(.ref o0)])) (fun X t q => XS.aloadN X.here C.hx rfl (hb C.hby d1_59) rfl rfl q) ?_
  refine Wk.st (g' := (mkF m 61 #[.val (.ref o0), .val (.int (2 : Int32)), .unset] [(.int (2 : Int32)), (.ref o0)])) (fun X t q => XS.iloadN X.here C.hx rfl (hb C.hby d1_60) rfl q) ?_
  refine Wk.fNewP C (hw _ (List.mem_of_getElem? (i := 26) rfl)) (ty := .int) (dv := (.int (0 : Int32))) (N := 2) (ad := "[I") rfl rfl (by decide) (by decide) (by decide) (cap := 2) (by decide) (by decide) d1_61 (by decide) (by decide) ?_
  intro h368 b369 g370 E371 A372 F373
  have ne374 : o0 ≠ b369 := Nat.ne_of_lt (Nat.lt_of_lt_of_le F342.lt (Nat.le_of_eq g370.symm))
  have ne375 : b36 ≠ b369 := Nat.ne_of_lt (Nat.lt_of_lt_of_le F348.lt (Nat.le_of_eq g370.symm))
  have ne376 : b79 ≠ b369 := Nat.ne_of_lt (Nat.lt_of_lt_of_le F351.lt (Nat.le_of_eq g370.symm))
  have ne377 : b127 ≠ b369 := Nat.ne_of_lt (Nat.lt_of_lt_of_le F354.lt (Nat.le_of_eq g370.symm))
  have ne378 : b180 ≠ b369 := Nat.ne_of_lt (Nat.lt_of_lt_of_le F357.lt (Nat.le_of_eq g370.symm))
  have ne379 : b238 ≠ b369 := Nat.ne_of_lt (Nat.lt_of_lt_of_le F360.lt (Nat.le_of_eq g370.symm))
  have ne380 : b301 ≠ b369 := Nat.ne_of_lt (Nat.lt_of_lt_of_le F363.lt (Nat.le_of_eq g370.symm))
  have ge381 : n0 ≤ b369 := Nat.le_trans sz365 (Nat.le_of_eq g370.symm)
  have gz382 : h0.size ≤ b369 := Nat.le_trans sy366 (Nat.le_of_eq g370.symm)
  have F383 : Exa Z h368 o0 "com/example/torino/torino/AbsorbingChain" := F342.ext E371
  have F384 : Fld Z h368 o0 "com/example/torino/torino/AbsorbingChain" "predecessorCounts" "[I" .null := F343.ext E371
  have F385 : Fld Z h368 o0 "com/example/torino/torino/AbsorbingChain" "entryMarks" "[I" .null := F344.ext E371
  have F386 : Fld Z h368 o0 "com/example/torino/torino/AbsorbingChain" "entries" "[I" .null := F345.ext E371
  have F387 : Fld Z h368 o0 "com/example/torino/torino/AbsorbingChain" "markedRow" "I" (.int (-1 : Int32)) := F346.ext E371
  have F388 : Fld Z h368 o0 "com/example/torino/torino/AbsorbingChain" "size" "I" (.int (2 : Int32)) := F347.ext E371
  have F389 : Exa Z h368 b36 "[D" := F348.ext E371
  have F390 : Fa Z h368 b36 .double 2 (fun _ => (.double (0 : UInt64))) := F349.ext E371
  have F391 : Fld Z h368 o0 "com/example/torino/torino/AbsorbingChain" "exitProbabilities" "[D" (.ref b36) := F350.ext E371
  have F392 : Exa Z h368 b79 "[D" := F351.ext E371
  have F393 : Fa Z h368 b79 .double 2 (fun _ => (.double (0 : UInt64))) := F352.ext E371
  have F394 : Fld Z h368 o0 "com/example/torino/torino/AbsorbingChain" "exitValues" "[D" (.ref b79) := F353.ext E371
  have F395 : Exa Z h368 b127 "[[I" := F354.ext E371
  have F396 : FaA Z h368 b127 .int "[I" 2 (fun _ => .null) := F355.ext E371
  have F397 : Fld Z h368 o0 "com/example/torino/torino/AbsorbingChain" "nexts" "[[I" (.ref b127) := F356.ext E371
  have F398 : Exa Z h368 b180 "[[D" := F357.ext E371
  have F399 : FaA Z h368 b180 .double "[D" 2 (fun _ => .null) := F358.ext E371
  have F400 : Fld Z h368 o0 "com/example/torino/torino/AbsorbingChain" "probabilities" "[[D" (.ref b180) := F359.ext E371
  have F401 : Exa Z h368 b238 "[I" := F360.ext E371
  have F402 : Fa Z h368 b238 .int 2 (fun _ => (.int (0 : Int32))) := F361.ext E371
  have F403 : Fld Z h368 o0 "com/example/torino/torino/AbsorbingChain" "lengths" "[I" (.ref b238) := F362.ext E371
  have F404 : Exa Z h368 b301 "[[I" := F363.ext E371
  have F405 : FaA Z h368 b301 .int "[I" 2 (fun _ => .null) := F364.ext E371
  have F406 : Fld Z h368 o0 "com/example/torino/torino/AbsorbingChain" "predecessors" "[[I" (.ref b301) := F341.ext E371
  have sz407 : n0 ≤ h368.size := Nat.le_trans sz365 E371.1
  have sy408 : h0.size ≤ h368.size := Nat.le_trans sy366 E371.1
  have K409 := K367.ext E371
  show Wk _ p l e _ s m _ below meth c n0 _ h368 7 14 (mkF m 63 #[.val (.ref o0), .val (.int (2 : Int32)), .unset] [(.ref b369), (.ref o0)])
  refine Wk.putF C (hw _ (List.mem_of_getElem? (i := 31) rfl)) Via.refl F384 F383 (Or.inr ⟨(hw _ (List.mem_of_getElem? (i := 32) rfl)), rfl, rfl⟩) (hw _ (List.mem_of_getElem? (i := 1) rfl)) (ty := (.array .int)) (by decide) (v' := (.ref b369)) rfl rfl G_o0 d1_63 ?_
  intro h410 W411
  have F412 : Fld Z h410 o0 "com/example/torino/torino/AbsorbingChain" "predecessorCounts" "[I" (.ref b369) := F384.same W411
  have F413 : Exa Z h410 o0 "com/example/torino/torino/AbsorbingChain" := F383.wr W411
  have F414 : Fld Z h410 o0 "com/example/torino/torino/AbsorbingChain" "entryMarks" "[I" .null := F385.other W411 (Or.inr (slot_ne (Or.inr (hw _ (List.mem_of_getElem? (i := 34) rfl))) (Or.inr (hw _ (List.mem_of_getElem? (i := 32) rfl))) (by decide) (t := (.array .int)) (t' := (.array .int)) (by decide) (by decide)))
  have F415 : Fld Z h410 o0 "com/example/torino/torino/AbsorbingChain" "entries" "[I" .null := F386.other W411 (Or.inr (slot_ne (Or.inr (hw _ (List.mem_of_getElem? (i := 36) rfl))) (Or.inr (hw _ (List.mem_of_getElem? (i := 32) rfl))) (by decide) (t := (.array .int)) (t' := (.array .int)) (by decide) (by decide)))
  have F416 : Fld Z h410 o0 "com/example/torino/torino/AbsorbingChain" "markedRow" "I" (.int (-1 : Int32)) := F387.other W411 (Or.inr (slot_ne (Or.inl (hw _ (List.mem_of_getElem? (i := 10) rfl))) (Or.inr (hw _ (List.mem_of_getElem? (i := 32) rfl))) (by decide) (t := .int) (t' := (.array .int)) (by decide) (by decide)))
  have F417 : Fld Z h410 o0 "com/example/torino/torino/AbsorbingChain" "size" "I" (.int (2 : Int32)) := F388.other W411 (Or.inr (slot_ne (Or.inr (hw _ (List.mem_of_getElem? (i := 12) rfl))) (Or.inr (hw _ (List.mem_of_getElem? (i := 32) rfl))) (by decide) (t := .int) (t' := (.array .int)) (by decide) (by decide)))
  have F418 : Exa Z h410 b36 "[D" := F389.wr W411
  have F419 : Fa Z h410 b36 .double 2 (fun _ => (.double (0 : UInt64))) := F390.other W411 (Ne.symm ne41)
  have F420 : Fld Z h410 o0 "com/example/torino/torino/AbsorbingChain" "exitProbabilities" "[D" (.ref b36) := F391.other W411 (Or.inr (slot_ne (Or.inr (hw _ (List.mem_of_getElem? (i := 15) rfl))) (Or.inr (hw _ (List.mem_of_getElem? (i := 32) rfl))) (by decide) (t := (.array .double)) (t' := (.array .int)) (by decide) (by decide)))
  have F421 : Exa Z h410 b79 "[D" := F392.wr W411
  have F422 : Fa Z h410 b79 .double 2 (fun _ => (.double (0 : UInt64))) := F393.other W411 (Ne.symm ne84)
  have F423 : Fld Z h410 o0 "com/example/torino/torino/AbsorbingChain" "exitValues" "[D" (.ref b79) := F394.other W411 (Or.inr (slot_ne (Or.inr (hw _ (List.mem_of_getElem? (i := 17) rfl))) (Or.inr (hw _ (List.mem_of_getElem? (i := 32) rfl))) (by decide) (t := (.array .double)) (t' := (.array .int)) (by decide) (by decide)))
  have F424 : Exa Z h410 b127 "[[I" := F395.wr W411
  have F425 : FaA Z h410 b127 .int "[I" 2 (fun _ => .null) := F396.other W411 (Ne.symm ne132)
  have F426 : Fld Z h410 o0 "com/example/torino/torino/AbsorbingChain" "nexts" "[[I" (.ref b127) := F397.other W411 (Or.inr (slot_ne (Or.inr (hw _ (List.mem_of_getElem? (i := 21) rfl))) (Or.inr (hw _ (List.mem_of_getElem? (i := 32) rfl))) (by decide) (t := (.array (.array .int))) (t' := (.array .int)) (by decide) (by decide)))
  have F427 : Exa Z h410 b180 "[[D" := F398.wr W411
  have F428 : FaA Z h410 b180 .double "[D" 2 (fun _ => .null) := F399.other W411 (Ne.symm ne185)
  have F429 : Fld Z h410 o0 "com/example/torino/torino/AbsorbingChain" "probabilities" "[[D" (.ref b180) := F400.other W411 (Or.inr (slot_ne (Or.inr (hw _ (List.mem_of_getElem? (i := 25) rfl))) (Or.inr (hw _ (List.mem_of_getElem? (i := 32) rfl))) (by decide) (t := (.array (.array .double))) (t' := (.array .int)) (by decide) (by decide)))
  have F430 : Exa Z h410 b238 "[I" := F401.wr W411
  have F431 : Fa Z h410 b238 .int 2 (fun _ => (.int (0 : Int32))) := F402.other W411 (Ne.symm ne243)
  have F432 : Fld Z h410 o0 "com/example/torino/torino/AbsorbingChain" "lengths" "[I" (.ref b238) := F403.other W411 (Or.inr (slot_ne (Or.inr (hw _ (List.mem_of_getElem? (i := 28) rfl))) (Or.inr (hw _ (List.mem_of_getElem? (i := 32) rfl))) (by decide) (t := (.array .int)) (t' := (.array .int)) (by decide) (by decide)))
  have F433 : Exa Z h410 b301 "[[I" := F404.wr W411
  have F434 : FaA Z h410 b301 .int "[I" 2 (fun _ => .null) := F405.other W411 (Ne.symm ne306)
  have F435 : Fld Z h410 o0 "com/example/torino/torino/AbsorbingChain" "predecessors" "[[I" (.ref b301) := F406.other W411 (Or.inr (slot_ne (Or.inr (hw _ (List.mem_of_getElem? (i := 30) rfl))) (Or.inr (hw _ (List.mem_of_getElem? (i := 32) rfl))) (by decide) (t := (.array (.array .int))) (t' := (.array .int)) (by decide) (by decide)))
  have F436 : Exa Z h410 b369 "[I" := A372.wr W411
  have F437 : Fa Z h410 b369 .int 2 (fun _ => (.int (0 : Int32))) := F373.other W411 (Ne.symm ne374)
  have sz438 : n0 ≤ h410.size := Nat.le_trans sz407 (Nat.le_of_eq W411.size.symm)
  have sy439 : h0.size ≤ h410.size := Nat.le_trans sy408 (Nat.le_of_eq W411.size.symm)
  have K440 := K409.wr W411 (Or.inl (by simp))
  show Wk _ p l e _ s m _ below meth c n0 _ h410 7 14 (mkF m 66 #[.val (.ref o0), .val (.int (2 : Int32)), .unset] [])
  refine Wk.st (g' := (mkF m 67 #[.val (.ref o0), .val (.int (2 : Int32)), .unset] [(.ref o0)])) (fun X t q => XS.aloadN X.here C.hx rfl (hb C.hby d1_66) rfl rfl q) ?_
  refine Wk.st (g' := (mkF m 68 #[.val (.ref o0), .val (.int (2 : Int32)), .unset] [(.int (2 : Int32)), (.ref o0)])) (fun X t q => XS.iloadN X.here C.hx rfl (hb C.hby d1_67) rfl q) ?_
  refine Wk.fNewP C (hw _ (List.mem_of_getElem? (i := 26) rfl)) (ty := .int) (dv := (.int (0 : Int32))) (N := 2) (ad := "[I") rfl rfl (by decide) (by decide) (by decide) (cap := 2) (by decide) (by decide) d1_68 (by decide) (by decide) ?_
  intro h441 b442 g443 E444 A445 F446
  have ne447 : o0 ≠ b442 := Nat.ne_of_lt (Nat.lt_of_lt_of_le F413.lt (Nat.le_of_eq g443.symm))
  have ne448 : b36 ≠ b442 := Nat.ne_of_lt (Nat.lt_of_lt_of_le F418.lt (Nat.le_of_eq g443.symm))
  have ne449 : b79 ≠ b442 := Nat.ne_of_lt (Nat.lt_of_lt_of_le F421.lt (Nat.le_of_eq g443.symm))
  have ne450 : b127 ≠ b442 := Nat.ne_of_lt (Nat.lt_of_lt_of_le F424.lt (Nat.le_of_eq g443.symm))
  have ne451 : b180 ≠ b442 := Nat.ne_of_lt (Nat.lt_of_lt_of_le F427.lt (Nat.le_of_eq g443.symm))
  have ne452 : b238 ≠ b442 := Nat.ne_of_lt (Nat.lt_of_lt_of_le F430.lt (Nat.le_of_eq g443.symm))
  have ne453 : b301 ≠ b442 := Nat.ne_of_lt (Nat.lt_of_lt_of_le F433.lt (Nat.le_of_eq g443.symm))
  have ne454 : b369 ≠ b442 := Nat.ne_of_lt (Nat.lt_of_lt_of_le F436.lt (Nat.le_of_eq g443.symm))
  have ge455 : n0 ≤ b442 := Nat.le_trans sz438 (Nat.le_of_eq g443.symm)
  have gz456 : h0.size ≤ b442 := Nat.le_trans sy439 (Nat.le_of_eq g443.symm)
  have F457 : Exa Z h441 o0 "com/example/torino/torino/AbsorbingChain" := F413.ext E444
  have F458 : Fld Z h441 o0 "com/example/torino/torino/AbsorbingChain" "entryMarks" "[I" .null := F414.ext E444
  have F459 : Fld Z h441 o0 "com/example/torino/torino/AbsorbingChain" "entries" "[I" .null := F415.ext E444
  have F460 : Fld Z h441 o0 "com/example/torino/torino/AbsorbingChain" "markedRow" "I" (.int (-1 : Int32)) := F416.ext E444
  have F461 : Fld Z h441 o0 "com/example/torino/torino/AbsorbingChain" "size" "I" (.int (2 : Int32)) := F417.ext E444
  have F462 : Exa Z h441 b36 "[D" := F418.ext E444
  have F463 : Fa Z h441 b36 .double 2 (fun _ => (.double (0 : UInt64))) := F419.ext E444
  have F464 : Fld Z h441 o0 "com/example/torino/torino/AbsorbingChain" "exitProbabilities" "[D" (.ref b36) := F420.ext E444
  have F465 : Exa Z h441 b79 "[D" := F421.ext E444
  have F466 : Fa Z h441 b79 .double 2 (fun _ => (.double (0 : UInt64))) := F422.ext E444
  have F467 : Fld Z h441 o0 "com/example/torino/torino/AbsorbingChain" "exitValues" "[D" (.ref b79) := F423.ext E444
  have F468 : Exa Z h441 b127 "[[I" := F424.ext E444
  have F469 : FaA Z h441 b127 .int "[I" 2 (fun _ => .null) := F425.ext E444
  have F470 : Fld Z h441 o0 "com/example/torino/torino/AbsorbingChain" "nexts" "[[I" (.ref b127) := F426.ext E444
  have F471 : Exa Z h441 b180 "[[D" := F427.ext E444
  have F472 : FaA Z h441 b180 .double "[D" 2 (fun _ => .null) := F428.ext E444
  have F473 : Fld Z h441 o0 "com/example/torino/torino/AbsorbingChain" "probabilities" "[[D" (.ref b180) := F429.ext E444
  have F474 : Exa Z h441 b238 "[I" := F430.ext E444
  have F475 : Fa Z h441 b238 .int 2 (fun _ => (.int (0 : Int32))) := F431.ext E444
  have F476 : Fld Z h441 o0 "com/example/torino/torino/AbsorbingChain" "lengths" "[I" (.ref b238) := F432.ext E444
  have F477 : Exa Z h441 b301 "[[I" := F433.ext E444
  have F478 : FaA Z h441 b301 .int "[I" 2 (fun _ => .null) := F434.ext E444
  have F479 : Fld Z h441 o0 "com/example/torino/torino/AbsorbingChain" "predecessors" "[[I" (.ref b301) := F435.ext E444
  have F480 : Exa Z h441 b369 "[I" := F436.ext E444
  have F481 : Fa Z h441 b369 .int 2 (fun _ => (.int (0 : Int32))) := F437.ext E444
  have F482 : Fld Z h441 o0 "com/example/torino/torino/AbsorbingChain" "predecessorCounts" "[I" (.ref b369) := F412.ext E444
  have sz483 : n0 ≤ h441.size := Nat.le_trans sz438 E444.1
  have sy484 : h0.size ≤ h441.size := Nat.le_trans sy439 E444.1
  have K485 := K440.ext E444
  show Wk _ p l e _ s m _ below meth c n0 _ h441 8 16 (mkF m 70 #[.val (.ref o0), .val (.int (2 : Int32)), .unset] [(.ref b442), (.ref o0)])
  refine Wk.putF C (hw _ (List.mem_of_getElem? (i := 33) rfl)) Via.refl F458 F457 (Or.inr ⟨(hw _ (List.mem_of_getElem? (i := 34) rfl)), rfl, rfl⟩) (hw _ (List.mem_of_getElem? (i := 1) rfl)) (ty := (.array .int)) (by decide) (v' := (.ref b442)) rfl rfl G_o0 d1_70 ?_
  intro h486 W487
  have F488 : Fld Z h486 o0 "com/example/torino/torino/AbsorbingChain" "entryMarks" "[I" (.ref b442) := F458.same W487
  have F489 : Exa Z h486 o0 "com/example/torino/torino/AbsorbingChain" := F457.wr W487
  have F490 : Fld Z h486 o0 "com/example/torino/torino/AbsorbingChain" "entries" "[I" .null := F459.other W487 (Or.inr (slot_ne (Or.inr (hw _ (List.mem_of_getElem? (i := 36) rfl))) (Or.inr (hw _ (List.mem_of_getElem? (i := 34) rfl))) (by decide) (t := (.array .int)) (t' := (.array .int)) (by decide) (by decide)))
  have F491 : Fld Z h486 o0 "com/example/torino/torino/AbsorbingChain" "markedRow" "I" (.int (-1 : Int32)) := F460.other W487 (Or.inr (slot_ne (Or.inl (hw _ (List.mem_of_getElem? (i := 10) rfl))) (Or.inr (hw _ (List.mem_of_getElem? (i := 34) rfl))) (by decide) (t := .int) (t' := (.array .int)) (by decide) (by decide)))
  have F492 : Fld Z h486 o0 "com/example/torino/torino/AbsorbingChain" "size" "I" (.int (2 : Int32)) := F461.other W487 (Or.inr (slot_ne (Or.inr (hw _ (List.mem_of_getElem? (i := 12) rfl))) (Or.inr (hw _ (List.mem_of_getElem? (i := 34) rfl))) (by decide) (t := .int) (t' := (.array .int)) (by decide) (by decide)))
  have F493 : Exa Z h486 b36 "[D" := F462.wr W487
  have F494 : Fa Z h486 b36 .double 2 (fun _ => (.double (0 : UInt64))) := F463.other W487 (Ne.symm ne41)
  have F495 : Fld Z h486 o0 "com/example/torino/torino/AbsorbingChain" "exitProbabilities" "[D" (.ref b36) := F464.other W487 (Or.inr (slot_ne (Or.inr (hw _ (List.mem_of_getElem? (i := 15) rfl))) (Or.inr (hw _ (List.mem_of_getElem? (i := 34) rfl))) (by decide) (t := (.array .double)) (t' := (.array .int)) (by decide) (by decide)))
  have F496 : Exa Z h486 b79 "[D" := F465.wr W487
  have F497 : Fa Z h486 b79 .double 2 (fun _ => (.double (0 : UInt64))) := F466.other W487 (Ne.symm ne84)
  have F498 : Fld Z h486 o0 "com/example/torino/torino/AbsorbingChain" "exitValues" "[D" (.ref b79) := F467.other W487 (Or.inr (slot_ne (Or.inr (hw _ (List.mem_of_getElem? (i := 17) rfl))) (Or.inr (hw _ (List.mem_of_getElem? (i := 34) rfl))) (by decide) (t := (.array .double)) (t' := (.array .int)) (by decide) (by decide)))
  have F499 : Exa Z h486 b127 "[[I" := F468.wr W487
  have F500 : FaA Z h486 b127 .int "[I" 2 (fun _ => .null) := F469.other W487 (Ne.symm ne132)
  have F501 : Fld Z h486 o0 "com/example/torino/torino/AbsorbingChain" "nexts" "[[I" (.ref b127) := F470.other W487 (Or.inr (slot_ne (Or.inr (hw _ (List.mem_of_getElem? (i := 21) rfl))) (Or.inr (hw _ (List.mem_of_getElem? (i := 34) rfl))) (by decide) (t := (.array (.array .int))) (t' := (.array .int)) (by decide) (by decide)))
  have F502 : Exa Z h486 b180 "[[D" := F471.wr W487
  have F503 : FaA Z h486 b180 .double "[D" 2 (fun _ => .null) := F472.other W487 (Ne.symm ne185)
  have F504 : Fld Z h486 o0 "com/example/torino/torino/AbsorbingChain" "probabilities" "[[D" (.ref b180) := F473.other W487 (Or.inr (slot_ne (Or.inr (hw _ (List.mem_of_getElem? (i := 25) rfl))) (Or.inr (hw _ (List.mem_of_getElem? (i := 34) rfl))) (by decide) (t := (.array (.array .double))) (t' := (.array .int)) (by decide) (by decide)))
  have F505 : Exa Z h486 b238 "[I" := F474.wr W487
  have F506 : Fa Z h486 b238 .int 2 (fun _ => (.int (0 : Int32))) := F475.other W487 (Ne.symm ne243)
  have F507 : Fld Z h486 o0 "com/example/torino/torino/AbsorbingChain" "lengths" "[I" (.ref b238) := F476.other W487 (Or.inr (slot_ne (Or.inr (hw _ (List.mem_of_getElem? (i := 28) rfl))) (Or.inr (hw _ (List.mem_of_getElem? (i := 34) rfl))) (by decide) (t := (.array .int)) (t' := (.array .int)) (by decide) (by decide)))
  have F508 : Exa Z h486 b301 "[[I" := F477.wr W487
  have F509 : FaA Z h486 b301 .int "[I" 2 (fun _ => .null) := F478.other W487 (Ne.symm ne306)
  have F510 : Fld Z h486 o0 "com/example/torino/torino/AbsorbingChain" "predecessors" "[[I" (.ref b301) := F479.other W487 (Or.inr (slot_ne (Or.inr (hw _ (List.mem_of_getElem? (i := 30) rfl))) (Or.inr (hw _ (List.mem_of_getElem? (i := 34) rfl))) (by decide) (t := (.array (.array .int))) (t' := (.array .int)) (by decide) (by decide)))
  have F511 : Exa Z h486 b369 "[I" := F480.wr W487
  have F512 : Fa Z h486 b369 .int 2 (fun _ => (.int (0 : Int32))) := F481.other W487 (Ne.symm ne374)
  have F513 : Fld Z h486 o0 "com/example/torino/torino/AbsorbingChain" "predecessorCounts" "[I" (.ref b369) := F482.other W487 (Or.inr (slot_ne (Or.inr (hw _ (List.mem_of_getElem? (i := 32) rfl))) (Or.inr (hw _ (List.mem_of_getElem? (i := 34) rfl))) (by decide) (t := (.array .int)) (t' := (.array .int)) (by decide) (by decide)))
  have F514 : Exa Z h486 b442 "[I" := A445.wr W487
  have F515 : Fa Z h486 b442 .int 2 (fun _ => (.int (0 : Int32))) := F446.other W487 (Ne.symm ne447)
  have sz516 : n0 ≤ h486.size := Nat.le_trans sz483 (Nat.le_of_eq W487.size.symm)
  have sy517 : h0.size ≤ h486.size := Nat.le_trans sy484 (Nat.le_of_eq W487.size.symm)
  have K518 := K485.wr W487 (Or.inl (by simp))
  show Wk _ p l e _ s m _ below meth c n0 _ h486 8 16 (mkF m 73 #[.val (.ref o0), .val (.int (2 : Int32)), .unset] [])
  refine Wk.st (g' := (mkF m 74 #[.val (.ref o0), .val (.int (2 : Int32)), .unset] [(.ref o0)])) (fun X t q => XS.aloadN X.here C.hx rfl (hb C.hby d1_73) rfl rfl q) ?_
  refine Wk.st (g' := (mkF m 75 #[.val (.ref o0), .val (.int (2 : Int32)), .unset] [(.int (2 : Int32)), (.ref o0)])) (fun X t q => XS.iloadN X.here C.hx rfl (hb C.hby d1_74) rfl q) ?_
  refine Wk.fNewP C (hw _ (List.mem_of_getElem? (i := 26) rfl)) (ty := .int) (dv := (.int (0 : Int32))) (N := 2) (ad := "[I") rfl rfl (by decide) (by decide) (by decide) (cap := 2) (by decide) (by decide) d1_75 (by decide) (by decide) ?_
  intro h519 b520 g521 E522 A523 F524
  have ne525 : o0 ≠ b520 := Nat.ne_of_lt (Nat.lt_of_lt_of_le F489.lt (Nat.le_of_eq g521.symm))
  have ne526 : b36 ≠ b520 := Nat.ne_of_lt (Nat.lt_of_lt_of_le F493.lt (Nat.le_of_eq g521.symm))
  have ne527 : b79 ≠ b520 := Nat.ne_of_lt (Nat.lt_of_lt_of_le F496.lt (Nat.le_of_eq g521.symm))
  have ne528 : b127 ≠ b520 := Nat.ne_of_lt (Nat.lt_of_lt_of_le F499.lt (Nat.le_of_eq g521.symm))
  have ne529 : b180 ≠ b520 := Nat.ne_of_lt (Nat.lt_of_lt_of_le F502.lt (Nat.le_of_eq g521.symm))
  have ne530 : b238 ≠ b520 := Nat.ne_of_lt (Nat.lt_of_lt_of_le F505.lt (Nat.le_of_eq g521.symm))
  have ne531 : b301 ≠ b520 := Nat.ne_of_lt (Nat.lt_of_lt_of_le F508.lt (Nat.le_of_eq g521.symm))
  have ne532 : b369 ≠ b520 := Nat.ne_of_lt (Nat.lt_of_lt_of_le F511.lt (Nat.le_of_eq g521.symm))
  have ne533 : b442 ≠ b520 := Nat.ne_of_lt (Nat.lt_of_lt_of_le F514.lt (Nat.le_of_eq g521.symm))
  have ge534 : n0 ≤ b520 := Nat.le_trans sz516 (Nat.le_of_eq g521.symm)
  have gz535 : h0.size ≤ b520 := Nat.le_trans sy517 (Nat.le_of_eq g521.symm)
  have F536 : Exa Z h519 o0 "com/example/torino/torino/AbsorbingChain" := F489.ext E522
  have F537 : Fld Z h519 o0 "com/example/torino/torino/AbsorbingChain" "entries" "[I" .null := F490.ext E522
  have F538 : Fld Z h519 o0 "com/example/torino/torino/AbsorbingChain" "markedRow" "I" (.int (-1 : Int32)) := F491.ext E522
  have F539 : Fld Z h519 o0 "com/example/torino/torino/AbsorbingChain" "size" "I" (.int (2 : Int32)) := F492.ext E522
  have F540 : Exa Z h519 b36 "[D" := F493.ext E522
  have F541 : Fa Z h519 b36 .double 2 (fun _ => (.double (0 : UInt64))) := F494.ext E522
  have F542 : Fld Z h519 o0 "com/example/torino/torino/AbsorbingChain" "exitProbabilities" "[D" (.ref b36) := F495.ext E522
  have F543 : Exa Z h519 b79 "[D" := F496.ext E522
  have F544 : Fa Z h519 b79 .double 2 (fun _ => (.double (0 : UInt64))) := F497.ext E522
  have F545 : Fld Z h519 o0 "com/example/torino/torino/AbsorbingChain" "exitValues" "[D" (.ref b79) := F498.ext E522
  have F546 : Exa Z h519 b127 "[[I" := F499.ext E522
  have F547 : FaA Z h519 b127 .int "[I" 2 (fun _ => .null) := F500.ext E522
  have F548 : Fld Z h519 o0 "com/example/torino/torino/AbsorbingChain" "nexts" "[[I" (.ref b127) := F501.ext E522
  have F549 : Exa Z h519 b180 "[[D" := F502.ext E522
  have F550 : FaA Z h519 b180 .double "[D" 2 (fun _ => .null) := F503.ext E522
  have F551 : Fld Z h519 o0 "com/example/torino/torino/AbsorbingChain" "probabilities" "[[D" (.ref b180) := F504.ext E522
  have F552 : Exa Z h519 b238 "[I" := F505.ext E522
  have F553 : Fa Z h519 b238 .int 2 (fun _ => (.int (0 : Int32))) := F506.ext E522
  have F554 : Fld Z h519 o0 "com/example/torino/torino/AbsorbingChain" "lengths" "[I" (.ref b238) := F507.ext E522
  have F555 : Exa Z h519 b301 "[[I" := F508.ext E522
  have F556 : FaA Z h519 b301 .int "[I" 2 (fun _ => .null) := F509.ext E522
  have F557 : Fld Z h519 o0 "com/example/torino/torino/AbsorbingChain" "predecessors" "[[I" (.ref b301) := F510.ext E522
  have F558 : Exa Z h519 b369 "[I" := F511.ext E522
  have F559 : Fa Z h519 b369 .int 2 (fun _ => (.int (0 : Int32))) := F512.ext E522
  have F560 : Fld Z h519 o0 "com/example/torino/torino/AbsorbingChain" "predecessorCounts" "[I" (.ref b369) := F513.ext E522
  have F561 : Exa Z h519 b442 "[I" := F514.ext E522
  have F562 : Fa Z h519 b442 .int 2 (fun _ => (.int (0 : Int32))) := F515.ext E522
  have F563 : Fld Z h519 o0 "com/example/torino/torino/AbsorbingChain" "entryMarks" "[I" (.ref b442) := F488.ext E522
  have sz564 : n0 ≤ h519.size := Nat.le_trans sz516 E522.1
  have sy565 : h0.size ≤ h519.size := Nat.le_trans sy517 E522.1
  have K566 := K518.ext E522
  show Wk _ p l e _ s m _ below meth c n0 _ h519 9 18 (mkF m 77 #[.val (.ref o0), .val (.int (2 : Int32)), .unset] [(.ref b520), (.ref o0)])
  refine Wk.putF C (hw _ (List.mem_of_getElem? (i := 35) rfl)) Via.refl F537 F536 (Or.inr ⟨(hw _ (List.mem_of_getElem? (i := 36) rfl)), rfl, rfl⟩) (hw _ (List.mem_of_getElem? (i := 1) rfl)) (ty := (.array .int)) (by decide) (v' := (.ref b520)) rfl rfl G_o0 d1_77 ?_
  intro h567 W568
  have F569 : Fld Z h567 o0 "com/example/torino/torino/AbsorbingChain" "entries" "[I" (.ref b520) := F537.same W568
  have F570 : Exa Z h567 o0 "com/example/torino/torino/AbsorbingChain" := F536.wr W568
  have F571 : Fld Z h567 o0 "com/example/torino/torino/AbsorbingChain" "markedRow" "I" (.int (-1 : Int32)) := F538.other W568 (Or.inr (slot_ne (Or.inl (hw _ (List.mem_of_getElem? (i := 10) rfl))) (Or.inr (hw _ (List.mem_of_getElem? (i := 36) rfl))) (by decide) (t := .int) (t' := (.array .int)) (by decide) (by decide)))
  have F572 : Fld Z h567 o0 "com/example/torino/torino/AbsorbingChain" "size" "I" (.int (2 : Int32)) := F539.other W568 (Or.inr (slot_ne (Or.inr (hw _ (List.mem_of_getElem? (i := 12) rfl))) (Or.inr (hw _ (List.mem_of_getElem? (i := 36) rfl))) (by decide) (t := .int) (t' := (.array .int)) (by decide) (by decide)))
  have F573 : Exa Z h567 b36 "[D" := F540.wr W568
  have F574 : Fa Z h567 b36 .double 2 (fun _ => (.double (0 : UInt64))) := F541.other W568 (Ne.symm ne41)
  have F575 : Fld Z h567 o0 "com/example/torino/torino/AbsorbingChain" "exitProbabilities" "[D" (.ref b36) := F542.other W568 (Or.inr (slot_ne (Or.inr (hw _ (List.mem_of_getElem? (i := 15) rfl))) (Or.inr (hw _ (List.mem_of_getElem? (i := 36) rfl))) (by decide) (t := (.array .double)) (t' := (.array .int)) (by decide) (by decide)))
  have F576 : Exa Z h567 b79 "[D" := F543.wr W568
  have F577 : Fa Z h567 b79 .double 2 (fun _ => (.double (0 : UInt64))) := F544.other W568 (Ne.symm ne84)
  have F578 : Fld Z h567 o0 "com/example/torino/torino/AbsorbingChain" "exitValues" "[D" (.ref b79) := F545.other W568 (Or.inr (slot_ne (Or.inr (hw _ (List.mem_of_getElem? (i := 17) rfl))) (Or.inr (hw _ (List.mem_of_getElem? (i := 36) rfl))) (by decide) (t := (.array .double)) (t' := (.array .int)) (by decide) (by decide)))
  have F579 : Exa Z h567 b127 "[[I" := F546.wr W568
  have F580 : FaA Z h567 b127 .int "[I" 2 (fun _ => .null) := F547.other W568 (Ne.symm ne132)
  have F581 : Fld Z h567 o0 "com/example/torino/torino/AbsorbingChain" "nexts" "[[I" (.ref b127) := F548.other W568 (Or.inr (slot_ne (Or.inr (hw _ (List.mem_of_getElem? (i := 21) rfl))) (Or.inr (hw _ (List.mem_of_getElem? (i := 36) rfl))) (by decide) (t := (.array (.array .int))) (t' := (.array .int)) (by decide) (by decide)))
  have F582 : Exa Z h567 b180 "[[D" := F549.wr W568
  have F583 : FaA Z h567 b180 .double "[D" 2 (fun _ => .null) := F550.other W568 (Ne.symm ne185)
  have F584 : Fld Z h567 o0 "com/example/torino/torino/AbsorbingChain" "probabilities" "[[D" (.ref b180) := F551.other W568 (Or.inr (slot_ne (Or.inr (hw _ (List.mem_of_getElem? (i := 25) rfl))) (Or.inr (hw _ (List.mem_of_getElem? (i := 36) rfl))) (by decide) (t := (.array (.array .double))) (t' := (.array .int)) (by decide) (by decide)))
  have F585 : Exa Z h567 b238 "[I" := F552.wr W568
  have F586 : Fa Z h567 b238 .int 2 (fun _ => (.int (0 : Int32))) := F553.other W568 (Ne.symm ne243)
  have F587 : Fld Z h567 o0 "com/example/torino/torino/AbsorbingChain" "lengths" "[I" (.ref b238) := F554.other W568 (Or.inr (slot_ne (Or.inr (hw _ (List.mem_of_getElem? (i := 28) rfl))) (Or.inr (hw _ (List.mem_of_getElem? (i := 36) rfl))) (by decide) (t := (.array .int)) (t' := (.array .int)) (by decide) (by decide)))
  have F588 : Exa Z h567 b301 "[[I" := F555.wr W568
  have F589 : FaA Z h567 b301 .int "[I" 2 (fun _ => .null) := F556.other W568 (Ne.symm ne306)
  have F590 : Fld Z h567 o0 "com/example/torino/torino/AbsorbingChain" "predecessors" "[[I" (.ref b301) := F557.other W568 (Or.inr (slot_ne (Or.inr (hw _ (List.mem_of_getElem? (i := 30) rfl))) (Or.inr (hw _ (List.mem_of_getElem? (i := 36) rfl))) (by decide) (t := (.array (.array .int))) (t' := (.array .int)) (by decide) (by decide)))
  have F591 : Exa Z h567 b369 "[I" := F558.wr W568
  have F592 : Fa Z h567 b369 .int 2 (fun _ => (.int (0 : Int32))) := F559.other W568 (Ne.symm ne374)
  have F593 : Fld Z h567 o0 "com/example/torino/torino/AbsorbingChain" "predecessorCounts" "[I" (.ref b369) := F560.other W568 (Or.inr (slot_ne (Or.inr (hw _ (List.mem_of_getElem? (i := 32) rfl))) (Or.inr (hw _ (List.mem_of_getElem? (i := 36) rfl))) (by decide) (t := (.array .int)) (t' := (.array .int)) (by decide) (by decide)))
  have F594 : Exa Z h567 b442 "[I" := F561.wr W568
  have F595 : Fa Z h567 b442 .int 2 (fun _ => (.int (0 : Int32))) := F562.other W568 (Ne.symm ne447)
  have F596 : Fld Z h567 o0 "com/example/torino/torino/AbsorbingChain" "entryMarks" "[I" (.ref b442) := F563.other W568 (Or.inr (slot_ne (Or.inr (hw _ (List.mem_of_getElem? (i := 34) rfl))) (Or.inr (hw _ (List.mem_of_getElem? (i := 36) rfl))) (by decide) (t := (.array .int)) (t' := (.array .int)) (by decide) (by decide)))
  have F597 : Exa Z h567 b520 "[I" := A523.wr W568
  have F598 : Fa Z h567 b520 .int 2 (fun _ => (.int (0 : Int32))) := F524.other W568 (Ne.symm ne525)
  have sz599 : n0 ≤ h567.size := Nat.le_trans sz564 (Nat.le_of_eq W568.size.symm)
  have sy600 : h0.size ≤ h567.size := Nat.le_trans sy565 (Nat.le_of_eq W568.size.symm)
  have K601 := K566.wr W568 (Or.inl (by simp))
  show Wk _ p l e _ s m _ below meth c n0 _ h567 9 18 (mkF m 80 #[.val (.ref o0), .val (.int (2 : Int32)), .unset] [])
  refine Wk.st (g' := (mkF m 81 #[.val (.ref o0), .val (.int (2 : Int32)), .unset] [(.int (0 : Int32))])) (fun X t q => XS.iconst X.here C.hx rfl (hb C.hby d1_80) q) ?_
  refine Wk.st (g' := (mkF m 82 #[.val (.ref o0), .val (.int (2 : Int32)), .val (.int (0 : Int32))] [])) (fun X t q => XS.istoreN X.here C.hx rfl (hb C.hby d1_81) rfl (l' := #[.val (.ref o0), .val (.int (2 : Int32)), .val (.int (0 : Int32))]) rfl q) ?_
  refine Wk.st (g' := (mkF m 83 #[.val (.ref o0), .val (.int (2 : Int32)), .val (.int (0 : Int32))] [(.int (0 : Int32))])) (fun X t q => XS.iloadN X.here C.hx rfl (hb C.hby d1_82) rfl q) ?_
  refine Wk.st (g' := (mkF m 84 #[.val (.ref o0), .val (.int (2 : Int32)), .val (.int (0 : Int32))] [(.int (2 : Int32)), (.int (0 : Int32))])) (fun X t q => XS.iloadN X.here C.hx rfl (hb C.hby d1_83) rfl q) ?_
  refine Wk.st (g' := (mkF m 87 #[.val (.ref o0), .val (.int (2 : Int32)), .val (.int (0 : Int32))] [])) (fun X t q => XS.icmpNo X.here C.hx rfl (hb C.hby d1_84) rfl (XT.ii_ge_f (by decide)) q) ?_
  refine Wk.st (g' := (mkF m 88 #[.val (.ref o0), .val (.int (2 : Int32)), .val (.int (0 : Int32))] [(.ref o0)])) (fun X t q => XS.aloadN X.here C.hx rfl (hb C.hby d1_87) rfl rfl q) ?_
  refine Wk.getF C (hw _ (List.mem_of_getElem? (i := 20) rfl)) Via.refl F581 d1_88 ?_
  show Wk _ p l e _ s m _ below meth c n0 _ h567 9 18 (mkF m 91 #[.val (.ref o0), .val (.int (2 : Int32)), .val (.int (0 : Int32))] [(.ref b127)])
  refine Wk.st (g' := (mkF m 92 #[.val (.ref o0), .val (.int (2 : Int32)), .val (.int (0 : Int32))] [(.int (0 : Int32)), (.ref b127)])) (fun X t q => XS.iloadN X.here C.hx rfl (hb C.hby d1_91) rfl q) ?_
  refine Wk.st (g' := (mkF m 93 #[.val (.ref o0), .val (.int (2 : Int32)), .val (.int (0 : Int32))] [(.int (2 : Int32)), (.int (0 : Int32)), (.ref b127)])) (fun X t q => XS.iconst X.here C.hx rfl (hb C.hby d1_92) q) ?_
  refine Wk.fNewP C (hw _ (List.mem_of_getElem? (i := 26) rfl)) (ty := .int) (dv := (.int (0 : Int32))) (N := 2) (ad := "[I") rfl rfl (by decide) (by decide) (by decide) (cap := 2) (by decide) (by decide) d1_93 (by decide) (by decide) ?_
  intro h602 b603 g604 E605 A606 F607
  have ne608 : o0 ≠ b603 := Nat.ne_of_lt (Nat.lt_of_lt_of_le F570.lt (Nat.le_of_eq g604.symm))
  have ne609 : b36 ≠ b603 := Nat.ne_of_lt (Nat.lt_of_lt_of_le F573.lt (Nat.le_of_eq g604.symm))
  have ne610 : b79 ≠ b603 := Nat.ne_of_lt (Nat.lt_of_lt_of_le F576.lt (Nat.le_of_eq g604.symm))
  have ne611 : b127 ≠ b603 := Nat.ne_of_lt (Nat.lt_of_lt_of_le F579.lt (Nat.le_of_eq g604.symm))
  have ne612 : b180 ≠ b603 := Nat.ne_of_lt (Nat.lt_of_lt_of_le F582.lt (Nat.le_of_eq g604.symm))
  have ne613 : b238 ≠ b603 := Nat.ne_of_lt (Nat.lt_of_lt_of_le F585.lt (Nat.le_of_eq g604.symm))
  have ne614 : b301 ≠ b603 := Nat.ne_of_lt (Nat.lt_of_lt_of_le F588.lt (Nat.le_of_eq g604.symm))
  have ne615 : b369 ≠ b603 := Nat.ne_of_lt (Nat.lt_of_lt_of_le F591.lt (Nat.le_of_eq g604.symm))
  have ne616 : b442 ≠ b603 := Nat.ne_of_lt (Nat.lt_of_lt_of_le F594.lt (Nat.le_of_eq g604.symm))
  have ne617 : b520 ≠ b603 := Nat.ne_of_lt (Nat.lt_of_lt_of_le F597.lt (Nat.le_of_eq g604.symm))
  have ge618 : n0 ≤ b603 := Nat.le_trans sz599 (Nat.le_of_eq g604.symm)
  have gz619 : h0.size ≤ b603 := Nat.le_trans sy600 (Nat.le_of_eq g604.symm)
  have F620 : Exa Z h602 o0 "com/example/torino/torino/AbsorbingChain" := F570.ext E605
  have F621 : Fld Z h602 o0 "com/example/torino/torino/AbsorbingChain" "markedRow" "I" (.int (-1 : Int32)) := F571.ext E605
  have F622 : Fld Z h602 o0 "com/example/torino/torino/AbsorbingChain" "size" "I" (.int (2 : Int32)) := F572.ext E605
  have F623 : Exa Z h602 b36 "[D" := F573.ext E605
  have F624 : Fa Z h602 b36 .double 2 (fun _ => (.double (0 : UInt64))) := F574.ext E605
  have F625 : Fld Z h602 o0 "com/example/torino/torino/AbsorbingChain" "exitProbabilities" "[D" (.ref b36) := F575.ext E605
  have F626 : Exa Z h602 b79 "[D" := F576.ext E605
  have F627 : Fa Z h602 b79 .double 2 (fun _ => (.double (0 : UInt64))) := F577.ext E605
  have F628 : Fld Z h602 o0 "com/example/torino/torino/AbsorbingChain" "exitValues" "[D" (.ref b79) := F578.ext E605
  have F629 : Exa Z h602 b127 "[[I" := F579.ext E605
  have F630 : FaA Z h602 b127 .int "[I" 2 (fun _ => .null) := F580.ext E605
  have F631 : Fld Z h602 o0 "com/example/torino/torino/AbsorbingChain" "nexts" "[[I" (.ref b127) := F581.ext E605
  have F632 : Exa Z h602 b180 "[[D" := F582.ext E605
  have F633 : FaA Z h602 b180 .double "[D" 2 (fun _ => .null) := F583.ext E605
  have F634 : Fld Z h602 o0 "com/example/torino/torino/AbsorbingChain" "probabilities" "[[D" (.ref b180) := F584.ext E605
  have F635 : Exa Z h602 b238 "[I" := F585.ext E605
  have F636 : Fa Z h602 b238 .int 2 (fun _ => (.int (0 : Int32))) := F586.ext E605
  have F637 : Fld Z h602 o0 "com/example/torino/torino/AbsorbingChain" "lengths" "[I" (.ref b238) := F587.ext E605
  have F638 : Exa Z h602 b301 "[[I" := F588.ext E605
  have F639 : FaA Z h602 b301 .int "[I" 2 (fun _ => .null) := F589.ext E605
  have F640 : Fld Z h602 o0 "com/example/torino/torino/AbsorbingChain" "predecessors" "[[I" (.ref b301) := F590.ext E605
  have F641 : Exa Z h602 b369 "[I" := F591.ext E605
  have F642 : Fa Z h602 b369 .int 2 (fun _ => (.int (0 : Int32))) := F592.ext E605
  have F643 : Fld Z h602 o0 "com/example/torino/torino/AbsorbingChain" "predecessorCounts" "[I" (.ref b369) := F593.ext E605
  have F644 : Exa Z h602 b442 "[I" := F594.ext E605
  have F645 : Fa Z h602 b442 .int 2 (fun _ => (.int (0 : Int32))) := F595.ext E605
  have F646 : Fld Z h602 o0 "com/example/torino/torino/AbsorbingChain" "entryMarks" "[I" (.ref b442) := F596.ext E605
  have F647 : Exa Z h602 b520 "[I" := F597.ext E605
  have F648 : Fa Z h602 b520 .int 2 (fun _ => (.int (0 : Int32))) := F598.ext E605
  have F649 : Fld Z h602 o0 "com/example/torino/torino/AbsorbingChain" "entries" "[I" (.ref b520) := F569.ext E605
  have sz650 : n0 ≤ h602.size := Nat.le_trans sz599 E605.1
  have sy651 : h0.size ≤ h602.size := Nat.le_trans sy600 E605.1
  have K652 := K601.ext E605
  show Wk _ p l e _ s m _ below meth c n0 _ h602 10 20 (mkF m 95 #[.val (.ref o0), .val (.int (2 : Int32)), .val (.int (0 : Int32))] [(.ref b603), (.int (0 : Int32)), (.ref b127)])
  refine Wk.fStA C F630 (i := 0) (by decide) (by decide) (by decide) (F630.sto A606) ge135 d1_95 ?_
  intro h653 W654 F655
  have F656 : Exa Z h653 o0 "com/example/torino/torino/AbsorbingChain" := F620.wr W654
  have F657 : Fld Z h653 o0 "com/example/torino/torino/AbsorbingChain" "markedRow" "I" (.int (-1 : Int32)) := F621.other W654 (Or.inl ne132)
  have F658 : Fld Z h653 o0 "com/example/torino/torino/AbsorbingChain" "size" "I" (.int (2 : Int32)) := F622.other W654 (Or.inl ne132)
  have F659 : Exa Z h653 b36 "[D" := F623.wr W654
  have F660 : Fa Z h653 b36 .double 2 (fun _ => (.double (0 : UInt64))) := F624.other W654 ne133
  have F661 : Fld Z h653 o0 "com/example/torino/torino/AbsorbingChain" "exitProbabilities" "[D" (.ref b36) := F625.other W654 (Or.inl ne132)
  have F662 : Exa Z h653 b79 "[D" := F626.wr W654
  have F663 : Fa Z h653 b79 .double 2 (fun _ => (.double (0 : UInt64))) := F627.other W654 ne134
  have F664 : Fld Z h653 o0 "com/example/torino/torino/AbsorbingChain" "exitValues" "[D" (.ref b79) := F628.other W654 (Or.inl ne132)
  have F665 : Exa Z h653 b127 "[[I" := F629.wr W654
  have F666 : Fld Z h653 o0 "com/example/torino/torino/AbsorbingChain" "nexts" "[[I" (.ref b127) := F631.other W654 (Or.inl ne132)
  have F667 : Exa Z h653 b180 "[[D" := F632.wr W654
  have F668 : FaA Z h653 b180 .double "[D" 2 (fun _ => .null) := F633.other W654 (Ne.symm ne188)
  have F669 : Fld Z h653 o0 "com/example/torino/torino/AbsorbingChain" "probabilities" "[[D" (.ref b180) := F634.other W654 (Or.inl ne132)
  have F670 : Exa Z h653 b238 "[I" := F635.wr W654
  have F671 : Fa Z h653 b238 .int 2 (fun _ => (.int (0 : Int32))) := F636.other W654 (Ne.symm ne246)
  have F672 : Fld Z h653 o0 "com/example/torino/torino/AbsorbingChain" "lengths" "[I" (.ref b238) := F637.other W654 (Or.inl ne132)
  have F673 : Exa Z h653 b301 "[[I" := F638.wr W654
  have F674 : FaA Z h653 b301 .int "[I" 2 (fun _ => .null) := F639.other W654 (Ne.symm ne309)
  have F675 : Fld Z h653 o0 "com/example/torino/torino/AbsorbingChain" "predecessors" "[[I" (.ref b301) := F640.other W654 (Or.inl ne132)
  have F676 : Exa Z h653 b369 "[I" := F641.wr W654
  have F677 : Fa Z h653 b369 .int 2 (fun _ => (.int (0 : Int32))) := F642.other W654 (Ne.symm ne377)
  have F678 : Fld Z h653 o0 "com/example/torino/torino/AbsorbingChain" "predecessorCounts" "[I" (.ref b369) := F643.other W654 (Or.inl ne132)
  have F679 : Exa Z h653 b442 "[I" := F644.wr W654
  have F680 : Fa Z h653 b442 .int 2 (fun _ => (.int (0 : Int32))) := F645.other W654 (Ne.symm ne450)
  have F681 : Fld Z h653 o0 "com/example/torino/torino/AbsorbingChain" "entryMarks" "[I" (.ref b442) := F646.other W654 (Or.inl ne132)
  have F682 : Exa Z h653 b520 "[I" := F647.wr W654
  have F683 : Fa Z h653 b520 .int 2 (fun _ => (.int (0 : Int32))) := F648.other W654 (Ne.symm ne528)
  have F684 : Fld Z h653 o0 "com/example/torino/torino/AbsorbingChain" "entries" "[I" (.ref b520) := F649.other W654 (Or.inl ne132)
  have F685 : Exa Z h653 b603 "[I" := A606.wr W654
  have F686 : Fa Z h653 b603 .int 2 (fun _ => (.int (0 : Int32))) := F607.other W654 (Ne.symm ne611)
  have sz687 : n0 ≤ h653.size := Nat.le_trans sz650 (Nat.le_of_eq W654.size.symm)
  have sy688 : h0.size ≤ h653.size := Nat.le_trans sy651 (Nat.le_of_eq W654.size.symm)
  have K689 := K652.wr W654 (Or.inr gz136)
  show Wk _ p l e _ s m _ below meth c n0 _ h653 10 20 (mkF m 96 #[.val (.ref o0), .val (.int (2 : Int32)), .val (.int (0 : Int32))] [])
  refine Wk.st (g' := (mkF m 97 #[.val (.ref o0), .val (.int (2 : Int32)), .val (.int (0 : Int32))] [(.ref o0)])) (fun X t q => XS.aloadN X.here C.hx rfl (hb C.hby d1_96) rfl rfl q) ?_
  refine Wk.getF C (hw _ (List.mem_of_getElem? (i := 24) rfl)) Via.refl F669 d1_97 ?_
  show Wk _ p l e _ s m _ below meth c n0 _ h653 10 20 (mkF m 100 #[.val (.ref o0), .val (.int (2 : Int32)), .val (.int (0 : Int32))] [(.ref b180)])
  refine Wk.st (g' := (mkF m 101 #[.val (.ref o0), .val (.int (2 : Int32)), .val (.int (0 : Int32))] [(.int (0 : Int32)), (.ref b180)])) (fun X t q => XS.iloadN X.here C.hx rfl (hb C.hby d1_100) rfl q) ?_
  refine Wk.st (g' := (mkF m 102 #[.val (.ref o0), .val (.int (2 : Int32)), .val (.int (0 : Int32))] [(.int (2 : Int32)), (.int (0 : Int32)), (.ref b180)])) (fun X t q => XS.iconst X.here C.hx rfl (hb C.hby d1_101) q) ?_
  refine Wk.fNewP C (hw _ (List.mem_of_getElem? (i := 13) rfl)) (ty := .double) (dv := (.double (0 : UInt64))) (N := 2) (ad := "[D") rfl rfl (by decide) (by decide) (by decide) (cap := 2) (by decide) (by decide) d1_102 (by decide) (by decide) ?_
  intro h690 b691 g692 E693 A694 F695
  have ne696 : o0 ≠ b691 := Nat.ne_of_lt (Nat.lt_of_lt_of_le F656.lt (Nat.le_of_eq g692.symm))
  have ne697 : b36 ≠ b691 := Nat.ne_of_lt (Nat.lt_of_lt_of_le F659.lt (Nat.le_of_eq g692.symm))
  have ne698 : b79 ≠ b691 := Nat.ne_of_lt (Nat.lt_of_lt_of_le F662.lt (Nat.le_of_eq g692.symm))
  have ne699 : b127 ≠ b691 := Nat.ne_of_lt (Nat.lt_of_lt_of_le F665.lt (Nat.le_of_eq g692.symm))
  have ne700 : b180 ≠ b691 := Nat.ne_of_lt (Nat.lt_of_lt_of_le F667.lt (Nat.le_of_eq g692.symm))
  have ne701 : b238 ≠ b691 := Nat.ne_of_lt (Nat.lt_of_lt_of_le F670.lt (Nat.le_of_eq g692.symm))
  have ne702 : b301 ≠ b691 := Nat.ne_of_lt (Nat.lt_of_lt_of_le F673.lt (Nat.le_of_eq g692.symm))
  have ne703 : b369 ≠ b691 := Nat.ne_of_lt (Nat.lt_of_lt_of_le F676.lt (Nat.le_of_eq g692.symm))
  have ne704 : b442 ≠ b691 := Nat.ne_of_lt (Nat.lt_of_lt_of_le F679.lt (Nat.le_of_eq g692.symm))
  have ne705 : b520 ≠ b691 := Nat.ne_of_lt (Nat.lt_of_lt_of_le F682.lt (Nat.le_of_eq g692.symm))
  have ne706 : b603 ≠ b691 := Nat.ne_of_lt (Nat.lt_of_lt_of_le F685.lt (Nat.le_of_eq g692.symm))
  have ge707 : n0 ≤ b691 := Nat.le_trans sz687 (Nat.le_of_eq g692.symm)
  have gz708 : h0.size ≤ b691 := Nat.le_trans sy688 (Nat.le_of_eq g692.symm)
  have F709 : Exa Z h690 o0 "com/example/torino/torino/AbsorbingChain" := F656.ext E693
  have F710 : Fld Z h690 o0 "com/example/torino/torino/AbsorbingChain" "markedRow" "I" (.int (-1 : Int32)) := F657.ext E693
  have F711 : Fld Z h690 o0 "com/example/torino/torino/AbsorbingChain" "size" "I" (.int (2 : Int32)) := F658.ext E693
  have F712 : Exa Z h690 b36 "[D" := F659.ext E693
  have F713 : Fa Z h690 b36 .double 2 (fun _ => (.double (0 : UInt64))) := F660.ext E693
  have F714 : Fld Z h690 o0 "com/example/torino/torino/AbsorbingChain" "exitProbabilities" "[D" (.ref b36) := F661.ext E693
  have F715 : Exa Z h690 b79 "[D" := F662.ext E693
  have F716 : Fa Z h690 b79 .double 2 (fun _ => (.double (0 : UInt64))) := F663.ext E693
  have F717 : Fld Z h690 o0 "com/example/torino/torino/AbsorbingChain" "exitValues" "[D" (.ref b79) := F664.ext E693
  have F718 : Exa Z h690 b127 "[[I" := F665.ext E693
  have F719 : Fld Z h690 o0 "com/example/torino/torino/AbsorbingChain" "nexts" "[[I" (.ref b127) := F666.ext E693
  have F720 : Exa Z h690 b180 "[[D" := F667.ext E693
  have F721 : FaA Z h690 b180 .double "[D" 2 (fun _ => .null) := F668.ext E693
  have F722 : Fld Z h690 o0 "com/example/torino/torino/AbsorbingChain" "probabilities" "[[D" (.ref b180) := F669.ext E693
  have F723 : Exa Z h690 b238 "[I" := F670.ext E693
  have F724 : Fa Z h690 b238 .int 2 (fun _ => (.int (0 : Int32))) := F671.ext E693
  have F725 : Fld Z h690 o0 "com/example/torino/torino/AbsorbingChain" "lengths" "[I" (.ref b238) := F672.ext E693
  have F726 : Exa Z h690 b301 "[[I" := F673.ext E693
  have F727 : FaA Z h690 b301 .int "[I" 2 (fun _ => .null) := F674.ext E693
  have F728 : Fld Z h690 o0 "com/example/torino/torino/AbsorbingChain" "predecessors" "[[I" (.ref b301) := F675.ext E693
  have F729 : Exa Z h690 b369 "[I" := F676.ext E693
  have F730 : Fa Z h690 b369 .int 2 (fun _ => (.int (0 : Int32))) := F677.ext E693
  have F731 : Fld Z h690 o0 "com/example/torino/torino/AbsorbingChain" "predecessorCounts" "[I" (.ref b369) := F678.ext E693
  have F732 : Exa Z h690 b442 "[I" := F679.ext E693
  have F733 : Fa Z h690 b442 .int 2 (fun _ => (.int (0 : Int32))) := F680.ext E693
  have F734 : Fld Z h690 o0 "com/example/torino/torino/AbsorbingChain" "entryMarks" "[I" (.ref b442) := F681.ext E693
  have F735 : Exa Z h690 b520 "[I" := F682.ext E693
  have F736 : Fa Z h690 b520 .int 2 (fun _ => (.int (0 : Int32))) := F683.ext E693
  have F737 : Fld Z h690 o0 "com/example/torino/torino/AbsorbingChain" "entries" "[I" (.ref b520) := F684.ext E693
  have F738 : Exa Z h690 b603 "[I" := F685.ext E693
  have F739 : Fa Z h690 b603 .int 2 (fun _ => (.int (0 : Int32))) := F686.ext E693
  have F740 : FaA Z h690 b127 .int "[I" 2 (up (fun _ => .null) 0 (.ref b603)) := F655.ext E693
  have sz741 : n0 ≤ h690.size := Nat.le_trans sz687 E693.1
  have sy742 : h0.size ≤ h690.size := Nat.le_trans sy688 E693.1
  have K743 := K689.ext E693
  show Wk _ p l e _ s m _ below meth c n0 _ h690 11 22 (mkF m 104 #[.val (.ref o0), .val (.int (2 : Int32)), .val (.int (0 : Int32))] [(.ref b691), (.int (0 : Int32)), (.ref b180)])
  refine Wk.fStA C F721 (i := 0) (by decide) (by decide) (by decide) (F721.sto A694) ge189 d1_104 ?_
  intro h744 W745 F746
  have F747 : Exa Z h744 o0 "com/example/torino/torino/AbsorbingChain" := F709.wr W745
  have F748 : Fld Z h744 o0 "com/example/torino/torino/AbsorbingChain" "markedRow" "I" (.int (-1 : Int32)) := F710.other W745 (Or.inl ne185)
  have F749 : Fld Z h744 o0 "com/example/torino/torino/AbsorbingChain" "size" "I" (.int (2 : Int32)) := F711.other W745 (Or.inl ne185)
  have F750 : Exa Z h744 b36 "[D" := F712.wr W745
  have F751 : Fa Z h744 b36 .double 2 (fun _ => (.double (0 : UInt64))) := F713.other W745 ne186
  have F752 : Fld Z h744 o0 "com/example/torino/torino/AbsorbingChain" "exitProbabilities" "[D" (.ref b36) := F714.other W745 (Or.inl ne185)
  have F753 : Exa Z h744 b79 "[D" := F715.wr W745
  have F754 : Fa Z h744 b79 .double 2 (fun _ => (.double (0 : UInt64))) := F716.other W745 ne187
  have F755 : Fld Z h744 o0 "com/example/torino/torino/AbsorbingChain" "exitValues" "[D" (.ref b79) := F717.other W745 (Or.inl ne185)
  have F756 : Exa Z h744 b127 "[[I" := F718.wr W745
  have F757 : Fld Z h744 o0 "com/example/torino/torino/AbsorbingChain" "nexts" "[[I" (.ref b127) := F719.other W745 (Or.inl ne185)
  have F758 : Exa Z h744 b180 "[[D" := F720.wr W745
  have F759 : Fld Z h744 o0 "com/example/torino/torino/AbsorbingChain" "probabilities" "[[D" (.ref b180) := F722.other W745 (Or.inl ne185)
  have F760 : Exa Z h744 b238 "[I" := F723.wr W745
  have F761 : Fa Z h744 b238 .int 2 (fun _ => (.int (0 : Int32))) := F724.other W745 (Ne.symm ne247)
  have F762 : Fld Z h744 o0 "com/example/torino/torino/AbsorbingChain" "lengths" "[I" (.ref b238) := F725.other W745 (Or.inl ne185)
  have F763 : Exa Z h744 b301 "[[I" := F726.wr W745
  have F764 : FaA Z h744 b301 .int "[I" 2 (fun _ => .null) := F727.other W745 (Ne.symm ne310)
  have F765 : Fld Z h744 o0 "com/example/torino/torino/AbsorbingChain" "predecessors" "[[I" (.ref b301) := F728.other W745 (Or.inl ne185)
  have F766 : Exa Z h744 b369 "[I" := F729.wr W745
  have F767 : Fa Z h744 b369 .int 2 (fun _ => (.int (0 : Int32))) := F730.other W745 (Ne.symm ne378)
  have F768 : Fld Z h744 o0 "com/example/torino/torino/AbsorbingChain" "predecessorCounts" "[I" (.ref b369) := F731.other W745 (Or.inl ne185)
  have F769 : Exa Z h744 b442 "[I" := F732.wr W745
  have F770 : Fa Z h744 b442 .int 2 (fun _ => (.int (0 : Int32))) := F733.other W745 (Ne.symm ne451)
  have F771 : Fld Z h744 o0 "com/example/torino/torino/AbsorbingChain" "entryMarks" "[I" (.ref b442) := F734.other W745 (Or.inl ne185)
  have F772 : Exa Z h744 b520 "[I" := F735.wr W745
  have F773 : Fa Z h744 b520 .int 2 (fun _ => (.int (0 : Int32))) := F736.other W745 (Ne.symm ne529)
  have F774 : Fld Z h744 o0 "com/example/torino/torino/AbsorbingChain" "entries" "[I" (.ref b520) := F737.other W745 (Or.inl ne185)
  have F775 : Exa Z h744 b603 "[I" := F738.wr W745
  have F776 : Fa Z h744 b603 .int 2 (fun _ => (.int (0 : Int32))) := F739.other W745 (Ne.symm ne612)
  have F777 : FaA Z h744 b127 .int "[I" 2 (up (fun _ => .null) 0 (.ref b603)) := F740.other W745 ne188
  have F778 : Exa Z h744 b691 "[D" := A694.wr W745
  have F779 : Fa Z h744 b691 .double 2 (fun _ => (.double (0 : UInt64))) := F695.other W745 (Ne.symm ne700)
  have sz780 : n0 ≤ h744.size := Nat.le_trans sz741 (Nat.le_of_eq W745.size.symm)
  have sy781 : h0.size ≤ h744.size := Nat.le_trans sy742 (Nat.le_of_eq W745.size.symm)
  have K782 := K743.wr W745 (Or.inr gz190)
  show Wk _ p l e _ s m _ below meth c n0 _ h744 11 22 (mkF m 105 #[.val (.ref o0), .val (.int (2 : Int32)), .val (.int (0 : Int32))] [])
  refine Wk.st (g' := (mkF m 106 #[.val (.ref o0), .val (.int (2 : Int32)), .val (.int (0 : Int32))] [(.ref o0)])) (fun X t q => XS.aloadN X.here C.hx rfl (hb C.hby d1_105) rfl rfl q) ?_
  refine Wk.getF C (hw _ (List.mem_of_getElem? (i := 29) rfl)) Via.refl F765 d1_106 ?_
  show Wk _ p l e _ s m _ below meth c n0 _ h744 11 22 (mkF m 109 #[.val (.ref o0), .val (.int (2 : Int32)), .val (.int (0 : Int32))] [(.ref b301)])
  refine Wk.st (g' := (mkF m 110 #[.val (.ref o0), .val (.int (2 : Int32)), .val (.int (0 : Int32))] [(.int (0 : Int32)), (.ref b301)])) (fun X t q => XS.iloadN X.here C.hx rfl (hb C.hby d1_109) rfl q) ?_
  refine Wk.st (g' := (mkF m 111 #[.val (.ref o0), .val (.int (2 : Int32)), .val (.int (0 : Int32))] [(.int (2 : Int32)), (.int (0 : Int32)), (.ref b301)])) (fun X t q => XS.iconst X.here C.hx rfl (hb C.hby d1_110) q) ?_
  refine Wk.fNewP C (hw _ (List.mem_of_getElem? (i := 26) rfl)) (ty := .int) (dv := (.int (0 : Int32))) (N := 2) (ad := "[I") rfl rfl (by decide) (by decide) (by decide) (cap := 2) (by decide) (by decide) d1_111 (by decide) (by decide) ?_
  intro h783 b784 g785 E786 A787 F788
  have ne789 : o0 ≠ b784 := Nat.ne_of_lt (Nat.lt_of_lt_of_le F747.lt (Nat.le_of_eq g785.symm))
  have ne790 : b36 ≠ b784 := Nat.ne_of_lt (Nat.lt_of_lt_of_le F750.lt (Nat.le_of_eq g785.symm))
  have ne791 : b79 ≠ b784 := Nat.ne_of_lt (Nat.lt_of_lt_of_le F753.lt (Nat.le_of_eq g785.symm))
  have ne792 : b127 ≠ b784 := Nat.ne_of_lt (Nat.lt_of_lt_of_le F756.lt (Nat.le_of_eq g785.symm))
  have ne793 : b180 ≠ b784 := Nat.ne_of_lt (Nat.lt_of_lt_of_le F758.lt (Nat.le_of_eq g785.symm))
  have ne794 : b238 ≠ b784 := Nat.ne_of_lt (Nat.lt_of_lt_of_le F760.lt (Nat.le_of_eq g785.symm))
  have ne795 : b301 ≠ b784 := Nat.ne_of_lt (Nat.lt_of_lt_of_le F763.lt (Nat.le_of_eq g785.symm))
  have ne796 : b369 ≠ b784 := Nat.ne_of_lt (Nat.lt_of_lt_of_le F766.lt (Nat.le_of_eq g785.symm))
  have ne797 : b442 ≠ b784 := Nat.ne_of_lt (Nat.lt_of_lt_of_le F769.lt (Nat.le_of_eq g785.symm))
  have ne798 : b520 ≠ b784 := Nat.ne_of_lt (Nat.lt_of_lt_of_le F772.lt (Nat.le_of_eq g785.symm))
  have ne799 : b603 ≠ b784 := Nat.ne_of_lt (Nat.lt_of_lt_of_le F775.lt (Nat.le_of_eq g785.symm))
  have ne800 : b691 ≠ b784 := Nat.ne_of_lt (Nat.lt_of_lt_of_le F778.lt (Nat.le_of_eq g785.symm))
  have ge801 : n0 ≤ b784 := Nat.le_trans sz780 (Nat.le_of_eq g785.symm)
  have gz802 : h0.size ≤ b784 := Nat.le_trans sy781 (Nat.le_of_eq g785.symm)
  have F803 : Exa Z h783 o0 "com/example/torino/torino/AbsorbingChain" := F747.ext E786
  have F804 : Fld Z h783 o0 "com/example/torino/torino/AbsorbingChain" "markedRow" "I" (.int (-1 : Int32)) := F748.ext E786
  have F805 : Fld Z h783 o0 "com/example/torino/torino/AbsorbingChain" "size" "I" (.int (2 : Int32)) := F749.ext E786
  have F806 : Exa Z h783 b36 "[D" := F750.ext E786
  have F807 : Fa Z h783 b36 .double 2 (fun _ => (.double (0 : UInt64))) := F751.ext E786
  have F808 : Fld Z h783 o0 "com/example/torino/torino/AbsorbingChain" "exitProbabilities" "[D" (.ref b36) := F752.ext E786
  have F809 : Exa Z h783 b79 "[D" := F753.ext E786
  have F810 : Fa Z h783 b79 .double 2 (fun _ => (.double (0 : UInt64))) := F754.ext E786
  have F811 : Fld Z h783 o0 "com/example/torino/torino/AbsorbingChain" "exitValues" "[D" (.ref b79) := F755.ext E786
  have F812 : Exa Z h783 b127 "[[I" := F756.ext E786
  have F813 : Fld Z h783 o0 "com/example/torino/torino/AbsorbingChain" "nexts" "[[I" (.ref b127) := F757.ext E786
  have F814 : Exa Z h783 b180 "[[D" := F758.ext E786
  have F815 : Fld Z h783 o0 "com/example/torino/torino/AbsorbingChain" "probabilities" "[[D" (.ref b180) := F759.ext E786
  have F816 : Exa Z h783 b238 "[I" := F760.ext E786
  have F817 : Fa Z h783 b238 .int 2 (fun _ => (.int (0 : Int32))) := F761.ext E786
  have F818 : Fld Z h783 o0 "com/example/torino/torino/AbsorbingChain" "lengths" "[I" (.ref b238) := F762.ext E786
  have F819 : Exa Z h783 b301 "[[I" := F763.ext E786
  have F820 : FaA Z h783 b301 .int "[I" 2 (fun _ => .null) := F764.ext E786
  have F821 : Fld Z h783 o0 "com/example/torino/torino/AbsorbingChain" "predecessors" "[[I" (.ref b301) := F765.ext E786
  have F822 : Exa Z h783 b369 "[I" := F766.ext E786
  have F823 : Fa Z h783 b369 .int 2 (fun _ => (.int (0 : Int32))) := F767.ext E786
  have F824 : Fld Z h783 o0 "com/example/torino/torino/AbsorbingChain" "predecessorCounts" "[I" (.ref b369) := F768.ext E786
  have F825 : Exa Z h783 b442 "[I" := F769.ext E786
  have F826 : Fa Z h783 b442 .int 2 (fun _ => (.int (0 : Int32))) := F770.ext E786
  have F827 : Fld Z h783 o0 "com/example/torino/torino/AbsorbingChain" "entryMarks" "[I" (.ref b442) := F771.ext E786
  have F828 : Exa Z h783 b520 "[I" := F772.ext E786
  have F829 : Fa Z h783 b520 .int 2 (fun _ => (.int (0 : Int32))) := F773.ext E786
  have F830 : Fld Z h783 o0 "com/example/torino/torino/AbsorbingChain" "entries" "[I" (.ref b520) := F774.ext E786
  have F831 : Exa Z h783 b603 "[I" := F775.ext E786
  have F832 : Fa Z h783 b603 .int 2 (fun _ => (.int (0 : Int32))) := F776.ext E786
  have F833 : FaA Z h783 b127 .int "[I" 2 (up (fun _ => .null) 0 (.ref b603)) := F777.ext E786
  have F834 : Exa Z h783 b691 "[D" := F778.ext E786
  have F835 : Fa Z h783 b691 .double 2 (fun _ => (.double (0 : UInt64))) := F779.ext E786
  have F836 : FaA Z h783 b180 .double "[D" 2 (up (fun _ => .null) 0 (.ref b691)) := F746.ext E786
  have sz837 : n0 ≤ h783.size := Nat.le_trans sz780 E786.1
  have sy838 : h0.size ≤ h783.size := Nat.le_trans sy781 E786.1
  have K839 := K782.ext E786
  show Wk _ p l e _ s m _ below meth c n0 _ h783 12 24 (mkF m 113 #[.val (.ref o0), .val (.int (2 : Int32)), .val (.int (0 : Int32))] [(.ref b784), (.int (0 : Int32)), (.ref b301)])
  refine Wk.fStA C F820 (i := 0) (by decide) (by decide) (by decide) (F820.sto A787) ge312 d1_113 ?_
  intro h840 W841 F842
  have F843 : Exa Z h840 o0 "com/example/torino/torino/AbsorbingChain" := F803.wr W841
  have F844 : Fld Z h840 o0 "com/example/torino/torino/AbsorbingChain" "markedRow" "I" (.int (-1 : Int32)) := F804.other W841 (Or.inl ne306)
  have F845 : Fld Z h840 o0 "com/example/torino/torino/AbsorbingChain" "size" "I" (.int (2 : Int32)) := F805.other W841 (Or.inl ne306)
  have F846 : Exa Z h840 b36 "[D" := F806.wr W841
  have F847 : Fa Z h840 b36 .double 2 (fun _ => (.double (0 : UInt64))) := F807.other W841 ne307
  have F848 : Fld Z h840 o0 "com/example/torino/torino/AbsorbingChain" "exitProbabilities" "[D" (.ref b36) := F808.other W841 (Or.inl ne306)
  have F849 : Exa Z h840 b79 "[D" := F809.wr W841
  have F850 : Fa Z h840 b79 .double 2 (fun _ => (.double (0 : UInt64))) := F810.other W841 ne308
  have F851 : Fld Z h840 o0 "com/example/torino/torino/AbsorbingChain" "exitValues" "[D" (.ref b79) := F811.other W841 (Or.inl ne306)
  have F852 : Exa Z h840 b127 "[[I" := F812.wr W841
  have F853 : Fld Z h840 o0 "com/example/torino/torino/AbsorbingChain" "nexts" "[[I" (.ref b127) := F813.other W841 (Or.inl ne306)
  have F854 : Exa Z h840 b180 "[[D" := F814.wr W841
  have F855 : Fld Z h840 o0 "com/example/torino/torino/AbsorbingChain" "probabilities" "[[D" (.ref b180) := F815.other W841 (Or.inl ne306)
  have F856 : Exa Z h840 b238 "[I" := F816.wr W841
  have F857 : Fa Z h840 b238 .int 2 (fun _ => (.int (0 : Int32))) := F817.other W841 ne311
  have F858 : Fld Z h840 o0 "com/example/torino/torino/AbsorbingChain" "lengths" "[I" (.ref b238) := F818.other W841 (Or.inl ne306)
  have F859 : Exa Z h840 b301 "[[I" := F819.wr W841
  have F860 : Fld Z h840 o0 "com/example/torino/torino/AbsorbingChain" "predecessors" "[[I" (.ref b301) := F821.other W841 (Or.inl ne306)
  have F861 : Exa Z h840 b369 "[I" := F822.wr W841
  have F862 : Fa Z h840 b369 .int 2 (fun _ => (.int (0 : Int32))) := F823.other W841 (Ne.symm ne380)
  have F863 : Fld Z h840 o0 "com/example/torino/torino/AbsorbingChain" "predecessorCounts" "[I" (.ref b369) := F824.other W841 (Or.inl ne306)
  have F864 : Exa Z h840 b442 "[I" := F825.wr W841
  have F865 : Fa Z h840 b442 .int 2 (fun _ => (.int (0 : Int32))) := F826.other W841 (Ne.symm ne453)
  have F866 : Fld Z h840 o0 "com/example/torino/torino/AbsorbingChain" "entryMarks" "[I" (.ref b442) := F827.other W841 (Or.inl ne306)
  have F867 : Exa Z h840 b520 "[I" := F828.wr W841
  have F868 : Fa Z h840 b520 .int 2 (fun _ => (.int (0 : Int32))) := F829.other W841 (Ne.symm ne531)
  have F869 : Fld Z h840 o0 "com/example/torino/torino/AbsorbingChain" "entries" "[I" (.ref b520) := F830.other W841 (Or.inl ne306)
  have F870 : Exa Z h840 b603 "[I" := F831.wr W841
  have F871 : Fa Z h840 b603 .int 2 (fun _ => (.int (0 : Int32))) := F832.other W841 (Ne.symm ne614)
  have F872 : FaA Z h840 b127 .int "[I" 2 (up (fun _ => .null) 0 (.ref b603)) := F833.other W841 ne309
  have F873 : Exa Z h840 b691 "[D" := F834.wr W841
  have F874 : Fa Z h840 b691 .double 2 (fun _ => (.double (0 : UInt64))) := F835.other W841 (Ne.symm ne702)
  have F875 : FaA Z h840 b180 .double "[D" 2 (up (fun _ => .null) 0 (.ref b691)) := F836.other W841 ne310
  have F876 : Exa Z h840 b784 "[I" := A787.wr W841
  have F877 : Fa Z h840 b784 .int 2 (fun _ => (.int (0 : Int32))) := F788.other W841 (Ne.symm ne795)
  have sz878 : n0 ≤ h840.size := Nat.le_trans sz837 (Nat.le_of_eq W841.size.symm)
  have sy879 : h0.size ≤ h840.size := Nat.le_trans sy838 (Nat.le_of_eq W841.size.symm)
  have K880 := K839.wr W841 (Or.inr gz313)
  show Wk _ p l e _ s m _ below meth c n0 _ h840 12 24 (mkF m 114 #[.val (.ref o0), .val (.int (2 : Int32)), .val (.int (0 : Int32))] [])
  refine Wk.st (g' := (mkF m 117 #[.val (.ref o0), .val (.int (2 : Int32)), .val (.int (1 : Int32))] [])) (fun X t q => XS.iinc X.here C.hx rfl (hb C.hby d1_114) rfl (l' := #[.val (.ref o0), .val (.int (2 : Int32)), .val (.int (1 : Int32))]) rfl q) ?_
  refine Wk.st (g' := (mkF m 82 #[.val (.ref o0), .val (.int (2 : Int32)), .val (.int (1 : Int32))] [])) (fun X t q => XS.goto X.here C.hx rfl (pc0 := 117) (pc' := 82) rfl (hb C.hby d1_117) (by decide) (by decide) q) ?_
  refine Wk.st (g' := (mkF m 83 #[.val (.ref o0), .val (.int (2 : Int32)), .val (.int (1 : Int32))] [(.int (1 : Int32))])) (fun X t q => XS.iloadN X.here C.hx rfl (hb C.hby d1_82) rfl q) ?_
  refine Wk.st (g' := (mkF m 84 #[.val (.ref o0), .val (.int (2 : Int32)), .val (.int (1 : Int32))] [(.int (2 : Int32)), (.int (1 : Int32))])) (fun X t q => XS.iloadN X.here C.hx rfl (hb C.hby d1_83) rfl q) ?_
  refine Wk.st (g' := (mkF m 87 #[.val (.ref o0), .val (.int (2 : Int32)), .val (.int (1 : Int32))] [])) (fun X t q => XS.icmpNo X.here C.hx rfl (hb C.hby d1_84) rfl (XT.ii_ge_f (by decide)) q) ?_
  refine Wk.st (g' := (mkF m 88 #[.val (.ref o0), .val (.int (2 : Int32)), .val (.int (1 : Int32))] [(.ref o0)])) (fun X t q => XS.aloadN X.here C.hx rfl (hb C.hby d1_87) rfl rfl q) ?_
  refine Wk.getF C (hw _ (List.mem_of_getElem? (i := 20) rfl)) Via.refl F853 d1_88 ?_
  show Wk _ p l e _ s m _ below meth c n0 _ h840 12 24 (mkF m 91 #[.val (.ref o0), .val (.int (2 : Int32)), .val (.int (1 : Int32))] [(.ref b127)])
  refine Wk.st (g' := (mkF m 92 #[.val (.ref o0), .val (.int (2 : Int32)), .val (.int (1 : Int32))] [(.int (1 : Int32)), (.ref b127)])) (fun X t q => XS.iloadN X.here C.hx rfl (hb C.hby d1_91) rfl q) ?_
  refine Wk.st (g' := (mkF m 93 #[.val (.ref o0), .val (.int (2 : Int32)), .val (.int (1 : Int32))] [(.int (2 : Int32)), (.int (1 : Int32)), (.ref b127)])) (fun X t q => XS.iconst X.here C.hx rfl (hb C.hby d1_92) q) ?_
  refine Wk.fNewP C (hw _ (List.mem_of_getElem? (i := 26) rfl)) (ty := .int) (dv := (.int (0 : Int32))) (N := 2) (ad := "[I") rfl rfl (by decide) (by decide) (by decide) (cap := 2) (by decide) (by decide) d1_93 (by decide) (by decide) ?_
  intro h881 b882 g883 E884 A885 F886
  have ne887 : o0 ≠ b882 := Nat.ne_of_lt (Nat.lt_of_lt_of_le F843.lt (Nat.le_of_eq g883.symm))
  have ne888 : b36 ≠ b882 := Nat.ne_of_lt (Nat.lt_of_lt_of_le F846.lt (Nat.le_of_eq g883.symm))
  have ne889 : b79 ≠ b882 := Nat.ne_of_lt (Nat.lt_of_lt_of_le F849.lt (Nat.le_of_eq g883.symm))
  have ne890 : b127 ≠ b882 := Nat.ne_of_lt (Nat.lt_of_lt_of_le F852.lt (Nat.le_of_eq g883.symm))
  have ne891 : b180 ≠ b882 := Nat.ne_of_lt (Nat.lt_of_lt_of_le F854.lt (Nat.le_of_eq g883.symm))
  have ne892 : b238 ≠ b882 := Nat.ne_of_lt (Nat.lt_of_lt_of_le F856.lt (Nat.le_of_eq g883.symm))
  have ne893 : b301 ≠ b882 := Nat.ne_of_lt (Nat.lt_of_lt_of_le F859.lt (Nat.le_of_eq g883.symm))
  have ne894 : b369 ≠ b882 := Nat.ne_of_lt (Nat.lt_of_lt_of_le F861.lt (Nat.le_of_eq g883.symm))
  have ne895 : b442 ≠ b882 := Nat.ne_of_lt (Nat.lt_of_lt_of_le F864.lt (Nat.le_of_eq g883.symm))
  have ne896 : b520 ≠ b882 := Nat.ne_of_lt (Nat.lt_of_lt_of_le F867.lt (Nat.le_of_eq g883.symm))
  have ne897 : b603 ≠ b882 := Nat.ne_of_lt (Nat.lt_of_lt_of_le F870.lt (Nat.le_of_eq g883.symm))
  have ne898 : b691 ≠ b882 := Nat.ne_of_lt (Nat.lt_of_lt_of_le F873.lt (Nat.le_of_eq g883.symm))
  have ne899 : b784 ≠ b882 := Nat.ne_of_lt (Nat.lt_of_lt_of_le F876.lt (Nat.le_of_eq g883.symm))
  have ge900 : n0 ≤ b882 := Nat.le_trans sz878 (Nat.le_of_eq g883.symm)
  have gz901 : h0.size ≤ b882 := Nat.le_trans sy879 (Nat.le_of_eq g883.symm)
  have F902 : Exa Z h881 o0 "com/example/torino/torino/AbsorbingChain" := F843.ext E884
  have F903 : Fld Z h881 o0 "com/example/torino/torino/AbsorbingChain" "markedRow" "I" (.int (-1 : Int32)) := F844.ext E884
  have F904 : Fld Z h881 o0 "com/example/torino/torino/AbsorbingChain" "size" "I" (.int (2 : Int32)) := F845.ext E884
  have F905 : Exa Z h881 b36 "[D" := F846.ext E884
  have F906 : Fa Z h881 b36 .double 2 (fun _ => (.double (0 : UInt64))) := F847.ext E884
  have F907 : Fld Z h881 o0 "com/example/torino/torino/AbsorbingChain" "exitProbabilities" "[D" (.ref b36) := F848.ext E884
  have F908 : Exa Z h881 b79 "[D" := F849.ext E884
  have F909 : Fa Z h881 b79 .double 2 (fun _ => (.double (0 : UInt64))) := F850.ext E884
  have F910 : Fld Z h881 o0 "com/example/torino/torino/AbsorbingChain" "exitValues" "[D" (.ref b79) := F851.ext E884
  have F911 : Exa Z h881 b127 "[[I" := F852.ext E884
  have F912 : Fld Z h881 o0 "com/example/torino/torino/AbsorbingChain" "nexts" "[[I" (.ref b127) := F853.ext E884
  have F913 : Exa Z h881 b180 "[[D" := F854.ext E884
  have F914 : Fld Z h881 o0 "com/example/torino/torino/AbsorbingChain" "probabilities" "[[D" (.ref b180) := F855.ext E884
  have F915 : Exa Z h881 b238 "[I" := F856.ext E884
  have F916 : Fa Z h881 b238 .int 2 (fun _ => (.int (0 : Int32))) := F857.ext E884
  have F917 : Fld Z h881 o0 "com/example/torino/torino/AbsorbingChain" "lengths" "[I" (.ref b238) := F858.ext E884
  have F918 : Exa Z h881 b301 "[[I" := F859.ext E884
  have F919 : Fld Z h881 o0 "com/example/torino/torino/AbsorbingChain" "predecessors" "[[I" (.ref b301) := F860.ext E884
  have F920 : Exa Z h881 b369 "[I" := F861.ext E884
  have F921 : Fa Z h881 b369 .int 2 (fun _ => (.int (0 : Int32))) := F862.ext E884
  have F922 : Fld Z h881 o0 "com/example/torino/torino/AbsorbingChain" "predecessorCounts" "[I" (.ref b369) := F863.ext E884
  have F923 : Exa Z h881 b442 "[I" := F864.ext E884
  have F924 : Fa Z h881 b442 .int 2 (fun _ => (.int (0 : Int32))) := F865.ext E884
  have F925 : Fld Z h881 o0 "com/example/torino/torino/AbsorbingChain" "entryMarks" "[I" (.ref b442) := F866.ext E884
  have F926 : Exa Z h881 b520 "[I" := F867.ext E884
  have F927 : Fa Z h881 b520 .int 2 (fun _ => (.int (0 : Int32))) := F868.ext E884
  have F928 : Fld Z h881 o0 "com/example/torino/torino/AbsorbingChain" "entries" "[I" (.ref b520) := F869.ext E884
  have F929 : Exa Z h881 b603 "[I" := F870.ext E884
  have F930 : Fa Z h881 b603 .int 2 (fun _ => (.int (0 : Int32))) := F871.ext E884
  have F931 : FaA Z h881 b127 .int "[I" 2 (up (fun _ => .null) 0 (.ref b603)) := F872.ext E884
  have F932 : Exa Z h881 b691 "[D" := F873.ext E884
  have F933 : Fa Z h881 b691 .double 2 (fun _ => (.double (0 : UInt64))) := F874.ext E884
  have F934 : FaA Z h881 b180 .double "[D" 2 (up (fun _ => .null) 0 (.ref b691)) := F875.ext E884
  have F935 : Exa Z h881 b784 "[I" := F876.ext E884
  have F936 : Fa Z h881 b784 .int 2 (fun _ => (.int (0 : Int32))) := F877.ext E884
  have F937 : FaA Z h881 b301 .int "[I" 2 (up (fun _ => .null) 0 (.ref b784)) := F842.ext E884
  have sz938 : n0 ≤ h881.size := Nat.le_trans sz878 E884.1
  have sy939 : h0.size ≤ h881.size := Nat.le_trans sy879 E884.1
  have K940 := K880.ext E884
  show Wk _ p l e _ s m _ below meth c n0 _ h881 13 26 (mkF m 95 #[.val (.ref o0), .val (.int (2 : Int32)), .val (.int (1 : Int32))] [(.ref b882), (.int (1 : Int32)), (.ref b127)])
  refine Wk.fStA C F931 (i := 1) (by decide) (by decide) (by decide) (F931.sto A885) ge135 d1_95 ?_
  intro h941 W942 F943
  have F944 : Exa Z h941 o0 "com/example/torino/torino/AbsorbingChain" := F902.wr W942
  have F945 : Fld Z h941 o0 "com/example/torino/torino/AbsorbingChain" "markedRow" "I" (.int (-1 : Int32)) := F903.other W942 (Or.inl ne132)
  have F946 : Fld Z h941 o0 "com/example/torino/torino/AbsorbingChain" "size" "I" (.int (2 : Int32)) := F904.other W942 (Or.inl ne132)
  have F947 : Exa Z h941 b36 "[D" := F905.wr W942
  have F948 : Fa Z h941 b36 .double 2 (fun _ => (.double (0 : UInt64))) := F906.other W942 ne133
  have F949 : Fld Z h941 o0 "com/example/torino/torino/AbsorbingChain" "exitProbabilities" "[D" (.ref b36) := F907.other W942 (Or.inl ne132)
  have F950 : Exa Z h941 b79 "[D" := F908.wr W942
  have F951 : Fa Z h941 b79 .double 2 (fun _ => (.double (0 : UInt64))) := F909.other W942 ne134
  have F952 : Fld Z h941 o0 "com/example/torino/torino/AbsorbingChain" "exitValues" "[D" (.ref b79) := F910.other W942 (Or.inl ne132)
  have F953 : Exa Z h941 b127 "[[I" := F911.wr W942
  have F954 : Fld Z h941 o0 "com/example/torino/torino/AbsorbingChain" "nexts" "[[I" (.ref b127) := F912.other W942 (Or.inl ne132)
  have F955 : Exa Z h941 b180 "[[D" := F913.wr W942
  have F956 : Fld Z h941 o0 "com/example/torino/torino/AbsorbingChain" "probabilities" "[[D" (.ref b180) := F914.other W942 (Or.inl ne132)
  have F957 : Exa Z h941 b238 "[I" := F915.wr W942
  have F958 : Fa Z h941 b238 .int 2 (fun _ => (.int (0 : Int32))) := F916.other W942 (Ne.symm ne246)
  have F959 : Fld Z h941 o0 "com/example/torino/torino/AbsorbingChain" "lengths" "[I" (.ref b238) := F917.other W942 (Or.inl ne132)
  have F960 : Exa Z h941 b301 "[[I" := F918.wr W942
  have F961 : Fld Z h941 o0 "com/example/torino/torino/AbsorbingChain" "predecessors" "[[I" (.ref b301) := F919.other W942 (Or.inl ne132)
  have F962 : Exa Z h941 b369 "[I" := F920.wr W942
  have F963 : Fa Z h941 b369 .int 2 (fun _ => (.int (0 : Int32))) := F921.other W942 (Ne.symm ne377)
  have F964 : Fld Z h941 o0 "com/example/torino/torino/AbsorbingChain" "predecessorCounts" "[I" (.ref b369) := F922.other W942 (Or.inl ne132)
  have F965 : Exa Z h941 b442 "[I" := F923.wr W942
  have F966 : Fa Z h941 b442 .int 2 (fun _ => (.int (0 : Int32))) := F924.other W942 (Ne.symm ne450)
  have F967 : Fld Z h941 o0 "com/example/torino/torino/AbsorbingChain" "entryMarks" "[I" (.ref b442) := F925.other W942 (Or.inl ne132)
  have F968 : Exa Z h941 b520 "[I" := F926.wr W942
  have F969 : Fa Z h941 b520 .int 2 (fun _ => (.int (0 : Int32))) := F927.other W942 (Ne.symm ne528)
  have F970 : Fld Z h941 o0 "com/example/torino/torino/AbsorbingChain" "entries" "[I" (.ref b520) := F928.other W942 (Or.inl ne132)
  have F971 : Exa Z h941 b603 "[I" := F929.wr W942
  have F972 : Fa Z h941 b603 .int 2 (fun _ => (.int (0 : Int32))) := F930.other W942 (Ne.symm ne611)
  have F973 : Exa Z h941 b691 "[D" := F932.wr W942
  have F974 : Fa Z h941 b691 .double 2 (fun _ => (.double (0 : UInt64))) := F933.other W942 (Ne.symm ne699)
  have F975 : FaA Z h941 b180 .double "[D" 2 (up (fun _ => .null) 0 (.ref b691)) := F934.other W942 (Ne.symm ne188)
  have F976 : Exa Z h941 b784 "[I" := F935.wr W942
  have F977 : Fa Z h941 b784 .int 2 (fun _ => (.int (0 : Int32))) := F936.other W942 (Ne.symm ne792)
  have F978 : FaA Z h941 b301 .int "[I" 2 (up (fun _ => .null) 0 (.ref b784)) := F937.other W942 (Ne.symm ne309)
  have F979 : Exa Z h941 b882 "[I" := A885.wr W942
  have F980 : Fa Z h941 b882 .int 2 (fun _ => (.int (0 : Int32))) := F886.other W942 (Ne.symm ne890)
  have sz981 : n0 ≤ h941.size := Nat.le_trans sz938 (Nat.le_of_eq W942.size.symm)
  have sy982 : h0.size ≤ h941.size := Nat.le_trans sy939 (Nat.le_of_eq W942.size.symm)
  have K983 := K940.wr W942 (Or.inr gz136)
  show Wk _ p l e _ s m _ below meth c n0 _ h941 13 26 (mkF m 96 #[.val (.ref o0), .val (.int (2 : Int32)), .val (.int (1 : Int32))] [])
  refine Wk.st (g' := (mkF m 97 #[.val (.ref o0), .val (.int (2 : Int32)), .val (.int (1 : Int32))] [(.ref o0)])) (fun X t q => XS.aloadN X.here C.hx rfl (hb C.hby d1_96) rfl rfl q) ?_
  refine Wk.getF C (hw _ (List.mem_of_getElem? (i := 24) rfl)) Via.refl F956 d1_97 ?_
  show Wk _ p l e _ s m _ below meth c n0 _ h941 13 26 (mkF m 100 #[.val (.ref o0), .val (.int (2 : Int32)), .val (.int (1 : Int32))] [(.ref b180)])
  refine Wk.st (g' := (mkF m 101 #[.val (.ref o0), .val (.int (2 : Int32)), .val (.int (1 : Int32))] [(.int (1 : Int32)), (.ref b180)])) (fun X t q => XS.iloadN X.here C.hx rfl (hb C.hby d1_100) rfl q) ?_
  refine Wk.st (g' := (mkF m 102 #[.val (.ref o0), .val (.int (2 : Int32)), .val (.int (1 : Int32))] [(.int (2 : Int32)), (.int (1 : Int32)), (.ref b180)])) (fun X t q => XS.iconst X.here C.hx rfl (hb C.hby d1_101) q) ?_
  refine Wk.fNewP C (hw _ (List.mem_of_getElem? (i := 13) rfl)) (ty := .double) (dv := (.double (0 : UInt64))) (N := 2) (ad := "[D") rfl rfl (by decide) (by decide) (by decide) (cap := 2) (by decide) (by decide) d1_102 (by decide) (by decide) ?_
  intro h984 b985 g986 E987 A988 F989
  have ne990 : o0 ≠ b985 := Nat.ne_of_lt (Nat.lt_of_lt_of_le F944.lt (Nat.le_of_eq g986.symm))
  have ne991 : b36 ≠ b985 := Nat.ne_of_lt (Nat.lt_of_lt_of_le F947.lt (Nat.le_of_eq g986.symm))
  have ne992 : b79 ≠ b985 := Nat.ne_of_lt (Nat.lt_of_lt_of_le F950.lt (Nat.le_of_eq g986.symm))
  have ne993 : b127 ≠ b985 := Nat.ne_of_lt (Nat.lt_of_lt_of_le F953.lt (Nat.le_of_eq g986.symm))
  have ne994 : b180 ≠ b985 := Nat.ne_of_lt (Nat.lt_of_lt_of_le F955.lt (Nat.le_of_eq g986.symm))
  have ne995 : b238 ≠ b985 := Nat.ne_of_lt (Nat.lt_of_lt_of_le F957.lt (Nat.le_of_eq g986.symm))
  have ne996 : b301 ≠ b985 := Nat.ne_of_lt (Nat.lt_of_lt_of_le F960.lt (Nat.le_of_eq g986.symm))
  have ne997 : b369 ≠ b985 := Nat.ne_of_lt (Nat.lt_of_lt_of_le F962.lt (Nat.le_of_eq g986.symm))
  have ne998 : b442 ≠ b985 := Nat.ne_of_lt (Nat.lt_of_lt_of_le F965.lt (Nat.le_of_eq g986.symm))
  have ne999 : b520 ≠ b985 := Nat.ne_of_lt (Nat.lt_of_lt_of_le F968.lt (Nat.le_of_eq g986.symm))
  have ne1000 : b603 ≠ b985 := Nat.ne_of_lt (Nat.lt_of_lt_of_le F971.lt (Nat.le_of_eq g986.symm))
  have ne1001 : b691 ≠ b985 := Nat.ne_of_lt (Nat.lt_of_lt_of_le F973.lt (Nat.le_of_eq g986.symm))
  have ne1002 : b784 ≠ b985 := Nat.ne_of_lt (Nat.lt_of_lt_of_le F976.lt (Nat.le_of_eq g986.symm))
  have ne1003 : b882 ≠ b985 := Nat.ne_of_lt (Nat.lt_of_lt_of_le F979.lt (Nat.le_of_eq g986.symm))
  have ge1004 : n0 ≤ b985 := Nat.le_trans sz981 (Nat.le_of_eq g986.symm)
  have gz1005 : h0.size ≤ b985 := Nat.le_trans sy982 (Nat.le_of_eq g986.symm)
  have F1006 : Exa Z h984 o0 "com/example/torino/torino/AbsorbingChain" := F944.ext E987
  have F1007 : Fld Z h984 o0 "com/example/torino/torino/AbsorbingChain" "markedRow" "I" (.int (-1 : Int32)) := F945.ext E987
  have F1008 : Fld Z h984 o0 "com/example/torino/torino/AbsorbingChain" "size" "I" (.int (2 : Int32)) := F946.ext E987
  have F1009 : Exa Z h984 b36 "[D" := F947.ext E987
  have F1010 : Fa Z h984 b36 .double 2 (fun _ => (.double (0 : UInt64))) := F948.ext E987
  have F1011 : Fld Z h984 o0 "com/example/torino/torino/AbsorbingChain" "exitProbabilities" "[D" (.ref b36) := F949.ext E987
  have F1012 : Exa Z h984 b79 "[D" := F950.ext E987
  have F1013 : Fa Z h984 b79 .double 2 (fun _ => (.double (0 : UInt64))) := F951.ext E987
  have F1014 : Fld Z h984 o0 "com/example/torino/torino/AbsorbingChain" "exitValues" "[D" (.ref b79) := F952.ext E987
  have F1015 : Exa Z h984 b127 "[[I" := F953.ext E987
  have F1016 : Fld Z h984 o0 "com/example/torino/torino/AbsorbingChain" "nexts" "[[I" (.ref b127) := F954.ext E987
  have F1017 : Exa Z h984 b180 "[[D" := F955.ext E987
  have F1018 : Fld Z h984 o0 "com/example/torino/torino/AbsorbingChain" "probabilities" "[[D" (.ref b180) := F956.ext E987
  have F1019 : Exa Z h984 b238 "[I" := F957.ext E987
  have F1020 : Fa Z h984 b238 .int 2 (fun _ => (.int (0 : Int32))) := F958.ext E987
  have F1021 : Fld Z h984 o0 "com/example/torino/torino/AbsorbingChain" "lengths" "[I" (.ref b238) := F959.ext E987
  have F1022 : Exa Z h984 b301 "[[I" := F960.ext E987
  have F1023 : Fld Z h984 o0 "com/example/torino/torino/AbsorbingChain" "predecessors" "[[I" (.ref b301) := F961.ext E987
  have F1024 : Exa Z h984 b369 "[I" := F962.ext E987
  have F1025 : Fa Z h984 b369 .int 2 (fun _ => (.int (0 : Int32))) := F963.ext E987
  have F1026 : Fld Z h984 o0 "com/example/torino/torino/AbsorbingChain" "predecessorCounts" "[I" (.ref b369) := F964.ext E987
  have F1027 : Exa Z h984 b442 "[I" := F965.ext E987
  have F1028 : Fa Z h984 b442 .int 2 (fun _ => (.int (0 : Int32))) := F966.ext E987
  have F1029 : Fld Z h984 o0 "com/example/torino/torino/AbsorbingChain" "entryMarks" "[I" (.ref b442) := F967.ext E987
  have F1030 : Exa Z h984 b520 "[I" := F968.ext E987
  have F1031 : Fa Z h984 b520 .int 2 (fun _ => (.int (0 : Int32))) := F969.ext E987
  have F1032 : Fld Z h984 o0 "com/example/torino/torino/AbsorbingChain" "entries" "[I" (.ref b520) := F970.ext E987
  have F1033 : Exa Z h984 b603 "[I" := F971.ext E987
  have F1034 : Fa Z h984 b603 .int 2 (fun _ => (.int (0 : Int32))) := F972.ext E987
  have F1035 : Exa Z h984 b691 "[D" := F973.ext E987
  have F1036 : Fa Z h984 b691 .double 2 (fun _ => (.double (0 : UInt64))) := F974.ext E987
  have F1037 : FaA Z h984 b180 .double "[D" 2 (up (fun _ => .null) 0 (.ref b691)) := F975.ext E987
  have F1038 : Exa Z h984 b784 "[I" := F976.ext E987
  have F1039 : Fa Z h984 b784 .int 2 (fun _ => (.int (0 : Int32))) := F977.ext E987
  have F1040 : FaA Z h984 b301 .int "[I" 2 (up (fun _ => .null) 0 (.ref b784)) := F978.ext E987
  have F1041 : Exa Z h984 b882 "[I" := F979.ext E987
  have F1042 : Fa Z h984 b882 .int 2 (fun _ => (.int (0 : Int32))) := F980.ext E987
  have F1043 : FaA Z h984 b127 .int "[I" 2 (up (up (fun _ => .null) 0 (.ref b603)) 1 (.ref b882)) := F943.ext E987
  have sz1044 : n0 ≤ h984.size := Nat.le_trans sz981 E987.1
  have sy1045 : h0.size ≤ h984.size := Nat.le_trans sy982 E987.1
  have K1046 := K983.ext E987
  show Wk _ p l e _ s m _ below meth c n0 _ h984 14 28 (mkF m 104 #[.val (.ref o0), .val (.int (2 : Int32)), .val (.int (1 : Int32))] [(.ref b985), (.int (1 : Int32)), (.ref b180)])
  refine Wk.fStA C F1037 (i := 1) (by decide) (by decide) (by decide) (F1037.sto A988) ge189 d1_104 ?_
  intro h1047 W1048 F1049
  have F1050 : Exa Z h1047 o0 "com/example/torino/torino/AbsorbingChain" := F1006.wr W1048
  have F1051 : Fld Z h1047 o0 "com/example/torino/torino/AbsorbingChain" "markedRow" "I" (.int (-1 : Int32)) := F1007.other W1048 (Or.inl ne185)
  have F1052 : Fld Z h1047 o0 "com/example/torino/torino/AbsorbingChain" "size" "I" (.int (2 : Int32)) := F1008.other W1048 (Or.inl ne185)
  have F1053 : Exa Z h1047 b36 "[D" := F1009.wr W1048
  have F1054 : Fa Z h1047 b36 .double 2 (fun _ => (.double (0 : UInt64))) := F1010.other W1048 ne186
  have F1055 : Fld Z h1047 o0 "com/example/torino/torino/AbsorbingChain" "exitProbabilities" "[D" (.ref b36) := F1011.other W1048 (Or.inl ne185)
  have F1056 : Exa Z h1047 b79 "[D" := F1012.wr W1048
  have F1057 : Fa Z h1047 b79 .double 2 (fun _ => (.double (0 : UInt64))) := F1013.other W1048 ne187
  have F1058 : Fld Z h1047 o0 "com/example/torino/torino/AbsorbingChain" "exitValues" "[D" (.ref b79) := F1014.other W1048 (Or.inl ne185)
  have F1059 : Exa Z h1047 b127 "[[I" := F1015.wr W1048
  have F1060 : Fld Z h1047 o0 "com/example/torino/torino/AbsorbingChain" "nexts" "[[I" (.ref b127) := F1016.other W1048 (Or.inl ne185)
  have F1061 : Exa Z h1047 b180 "[[D" := F1017.wr W1048
  have F1062 : Fld Z h1047 o0 "com/example/torino/torino/AbsorbingChain" "probabilities" "[[D" (.ref b180) := F1018.other W1048 (Or.inl ne185)
  have F1063 : Exa Z h1047 b238 "[I" := F1019.wr W1048
  have F1064 : Fa Z h1047 b238 .int 2 (fun _ => (.int (0 : Int32))) := F1020.other W1048 (Ne.symm ne247)
  have F1065 : Fld Z h1047 o0 "com/example/torino/torino/AbsorbingChain" "lengths" "[I" (.ref b238) := F1021.other W1048 (Or.inl ne185)
  have F1066 : Exa Z h1047 b301 "[[I" := F1022.wr W1048
  have F1067 : Fld Z h1047 o0 "com/example/torino/torino/AbsorbingChain" "predecessors" "[[I" (.ref b301) := F1023.other W1048 (Or.inl ne185)
  have F1068 : Exa Z h1047 b369 "[I" := F1024.wr W1048
  have F1069 : Fa Z h1047 b369 .int 2 (fun _ => (.int (0 : Int32))) := F1025.other W1048 (Ne.symm ne378)
  have F1070 : Fld Z h1047 o0 "com/example/torino/torino/AbsorbingChain" "predecessorCounts" "[I" (.ref b369) := F1026.other W1048 (Or.inl ne185)
  have F1071 : Exa Z h1047 b442 "[I" := F1027.wr W1048
  have F1072 : Fa Z h1047 b442 .int 2 (fun _ => (.int (0 : Int32))) := F1028.other W1048 (Ne.symm ne451)
  have F1073 : Fld Z h1047 o0 "com/example/torino/torino/AbsorbingChain" "entryMarks" "[I" (.ref b442) := F1029.other W1048 (Or.inl ne185)
  have F1074 : Exa Z h1047 b520 "[I" := F1030.wr W1048
  have F1075 : Fa Z h1047 b520 .int 2 (fun _ => (.int (0 : Int32))) := F1031.other W1048 (Ne.symm ne529)
  have F1076 : Fld Z h1047 o0 "com/example/torino/torino/AbsorbingChain" "entries" "[I" (.ref b520) := F1032.other W1048 (Or.inl ne185)
  have F1077 : Exa Z h1047 b603 "[I" := F1033.wr W1048
  have F1078 : Fa Z h1047 b603 .int 2 (fun _ => (.int (0 : Int32))) := F1034.other W1048 (Ne.symm ne612)
  have F1079 : Exa Z h1047 b691 "[D" := F1035.wr W1048
  have F1080 : Fa Z h1047 b691 .double 2 (fun _ => (.double (0 : UInt64))) := F1036.other W1048 (Ne.symm ne700)
  have F1081 : Exa Z h1047 b784 "[I" := F1038.wr W1048
  have F1082 : Fa Z h1047 b784 .int 2 (fun _ => (.int (0 : Int32))) := F1039.other W1048 (Ne.symm ne793)
  have F1083 : FaA Z h1047 b301 .int "[I" 2 (up (fun _ => .null) 0 (.ref b784)) := F1040.other W1048 (Ne.symm ne310)
  have F1084 : Exa Z h1047 b882 "[I" := F1041.wr W1048
  have F1085 : Fa Z h1047 b882 .int 2 (fun _ => (.int (0 : Int32))) := F1042.other W1048 (Ne.symm ne891)
  have F1086 : FaA Z h1047 b127 .int "[I" 2 (up (up (fun _ => .null) 0 (.ref b603)) 1 (.ref b882)) := F1043.other W1048 ne188
  have F1087 : Exa Z h1047 b985 "[D" := A988.wr W1048
  have F1088 : Fa Z h1047 b985 .double 2 (fun _ => (.double (0 : UInt64))) := F989.other W1048 (Ne.symm ne994)
  have sz1089 : n0 ≤ h1047.size := Nat.le_trans sz1044 (Nat.le_of_eq W1048.size.symm)
  have sy1090 : h0.size ≤ h1047.size := Nat.le_trans sy1045 (Nat.le_of_eq W1048.size.symm)
  have K1091 := K1046.wr W1048 (Or.inr gz190)
  show Wk _ p l e _ s m _ below meth c n0 _ h1047 14 28 (mkF m 105 #[.val (.ref o0), .val (.int (2 : Int32)), .val (.int (1 : Int32))] [])
  refine Wk.st (g' := (mkF m 106 #[.val (.ref o0), .val (.int (2 : Int32)), .val (.int (1 : Int32))] [(.ref o0)])) (fun X t q => XS.aloadN X.here C.hx rfl (hb C.hby d1_105) rfl rfl q) ?_
  refine Wk.getF C (hw _ (List.mem_of_getElem? (i := 29) rfl)) Via.refl F1067 d1_106 ?_
  show Wk _ p l e _ s m _ below meth c n0 _ h1047 14 28 (mkF m 109 #[.val (.ref o0), .val (.int (2 : Int32)), .val (.int (1 : Int32))] [(.ref b301)])
  refine Wk.st (g' := (mkF m 110 #[.val (.ref o0), .val (.int (2 : Int32)), .val (.int (1 : Int32))] [(.int (1 : Int32)), (.ref b301)])) (fun X t q => XS.iloadN X.here C.hx rfl (hb C.hby d1_109) rfl q) ?_
  refine Wk.st (g' := (mkF m 111 #[.val (.ref o0), .val (.int (2 : Int32)), .val (.int (1 : Int32))] [(.int (2 : Int32)), (.int (1 : Int32)), (.ref b301)])) (fun X t q => XS.iconst X.here C.hx rfl (hb C.hby d1_110) q) ?_
  refine Wk.fNewP C (hw _ (List.mem_of_getElem? (i := 26) rfl)) (ty := .int) (dv := (.int (0 : Int32))) (N := 2) (ad := "[I") rfl rfl (by decide) (by decide) (by decide) (cap := 2) (by decide) (by decide) d1_111 (by decide) (by decide) ?_
  intro h1092 b1093 g1094 E1095 A1096 F1097
  have ne1098 : o0 ≠ b1093 := Nat.ne_of_lt (Nat.lt_of_lt_of_le F1050.lt (Nat.le_of_eq g1094.symm))
  have ne1099 : b36 ≠ b1093 := Nat.ne_of_lt (Nat.lt_of_lt_of_le F1053.lt (Nat.le_of_eq g1094.symm))
  have ne1100 : b79 ≠ b1093 := Nat.ne_of_lt (Nat.lt_of_lt_of_le F1056.lt (Nat.le_of_eq g1094.symm))
  have ne1101 : b127 ≠ b1093 := Nat.ne_of_lt (Nat.lt_of_lt_of_le F1059.lt (Nat.le_of_eq g1094.symm))
  have ne1102 : b180 ≠ b1093 := Nat.ne_of_lt (Nat.lt_of_lt_of_le F1061.lt (Nat.le_of_eq g1094.symm))
  have ne1103 : b238 ≠ b1093 := Nat.ne_of_lt (Nat.lt_of_lt_of_le F1063.lt (Nat.le_of_eq g1094.symm))
  have ne1104 : b301 ≠ b1093 := Nat.ne_of_lt (Nat.lt_of_lt_of_le F1066.lt (Nat.le_of_eq g1094.symm))
  have ne1105 : b369 ≠ b1093 := Nat.ne_of_lt (Nat.lt_of_lt_of_le F1068.lt (Nat.le_of_eq g1094.symm))
  have ne1106 : b442 ≠ b1093 := Nat.ne_of_lt (Nat.lt_of_lt_of_le F1071.lt (Nat.le_of_eq g1094.symm))
  have ne1107 : b520 ≠ b1093 := Nat.ne_of_lt (Nat.lt_of_lt_of_le F1074.lt (Nat.le_of_eq g1094.symm))
  have ne1108 : b603 ≠ b1093 := Nat.ne_of_lt (Nat.lt_of_lt_of_le F1077.lt (Nat.le_of_eq g1094.symm))
  have ne1109 : b691 ≠ b1093 := Nat.ne_of_lt (Nat.lt_of_lt_of_le F1079.lt (Nat.le_of_eq g1094.symm))
  have ne1110 : b784 ≠ b1093 := Nat.ne_of_lt (Nat.lt_of_lt_of_le F1081.lt (Nat.le_of_eq g1094.symm))
  have ne1111 : b882 ≠ b1093 := Nat.ne_of_lt (Nat.lt_of_lt_of_le F1084.lt (Nat.le_of_eq g1094.symm))
  have ne1112 : b985 ≠ b1093 := Nat.ne_of_lt (Nat.lt_of_lt_of_le F1087.lt (Nat.le_of_eq g1094.symm))
  have ge1113 : n0 ≤ b1093 := Nat.le_trans sz1089 (Nat.le_of_eq g1094.symm)
  have gz1114 : h0.size ≤ b1093 := Nat.le_trans sy1090 (Nat.le_of_eq g1094.symm)
  have F1115 : Exa Z h1092 o0 "com/example/torino/torino/AbsorbingChain" := F1050.ext E1095
  have F1116 : Fld Z h1092 o0 "com/example/torino/torino/AbsorbingChain" "markedRow" "I" (.int (-1 : Int32)) := F1051.ext E1095
  have F1117 : Fld Z h1092 o0 "com/example/torino/torino/AbsorbingChain" "size" "I" (.int (2 : Int32)) := F1052.ext E1095
  have F1118 : Exa Z h1092 b36 "[D" := F1053.ext E1095
  have F1119 : Fa Z h1092 b36 .double 2 (fun _ => (.double (0 : UInt64))) := F1054.ext E1095
  have F1120 : Fld Z h1092 o0 "com/example/torino/torino/AbsorbingChain" "exitProbabilities" "[D" (.ref b36) := F1055.ext E1095
  have F1121 : Exa Z h1092 b79 "[D" := F1056.ext E1095
  have F1122 : Fa Z h1092 b79 .double 2 (fun _ => (.double (0 : UInt64))) := F1057.ext E1095
  have F1123 : Fld Z h1092 o0 "com/example/torino/torino/AbsorbingChain" "exitValues" "[D" (.ref b79) := F1058.ext E1095
  have F1124 : Exa Z h1092 b127 "[[I" := F1059.ext E1095
  have F1125 : Fld Z h1092 o0 "com/example/torino/torino/AbsorbingChain" "nexts" "[[I" (.ref b127) := F1060.ext E1095
  have F1126 : Exa Z h1092 b180 "[[D" := F1061.ext E1095
  have F1127 : Fld Z h1092 o0 "com/example/torino/torino/AbsorbingChain" "probabilities" "[[D" (.ref b180) := F1062.ext E1095
  have F1128 : Exa Z h1092 b238 "[I" := F1063.ext E1095
  have F1129 : Fa Z h1092 b238 .int 2 (fun _ => (.int (0 : Int32))) := F1064.ext E1095
  have F1130 : Fld Z h1092 o0 "com/example/torino/torino/AbsorbingChain" "lengths" "[I" (.ref b238) := F1065.ext E1095
  have F1131 : Exa Z h1092 b301 "[[I" := F1066.ext E1095
  have F1132 : Fld Z h1092 o0 "com/example/torino/torino/AbsorbingChain" "predecessors" "[[I" (.ref b301) := F1067.ext E1095
  have F1133 : Exa Z h1092 b369 "[I" := F1068.ext E1095
  have F1134 : Fa Z h1092 b369 .int 2 (fun _ => (.int (0 : Int32))) := F1069.ext E1095
  have F1135 : Fld Z h1092 o0 "com/example/torino/torino/AbsorbingChain" "predecessorCounts" "[I" (.ref b369) := F1070.ext E1095
  have F1136 : Exa Z h1092 b442 "[I" := F1071.ext E1095
  have F1137 : Fa Z h1092 b442 .int 2 (fun _ => (.int (0 : Int32))) := F1072.ext E1095
  have F1138 : Fld Z h1092 o0 "com/example/torino/torino/AbsorbingChain" "entryMarks" "[I" (.ref b442) := F1073.ext E1095
  have F1139 : Exa Z h1092 b520 "[I" := F1074.ext E1095
  have F1140 : Fa Z h1092 b520 .int 2 (fun _ => (.int (0 : Int32))) := F1075.ext E1095
  have F1141 : Fld Z h1092 o0 "com/example/torino/torino/AbsorbingChain" "entries" "[I" (.ref b520) := F1076.ext E1095
  have F1142 : Exa Z h1092 b603 "[I" := F1077.ext E1095
  have F1143 : Fa Z h1092 b603 .int 2 (fun _ => (.int (0 : Int32))) := F1078.ext E1095
  have F1144 : Exa Z h1092 b691 "[D" := F1079.ext E1095
  have F1145 : Fa Z h1092 b691 .double 2 (fun _ => (.double (0 : UInt64))) := F1080.ext E1095
  have F1146 : Exa Z h1092 b784 "[I" := F1081.ext E1095
  have F1147 : Fa Z h1092 b784 .int 2 (fun _ => (.int (0 : Int32))) := F1082.ext E1095
  have F1148 : FaA Z h1092 b301 .int "[I" 2 (up (fun _ => .null) 0 (.ref b784)) := F1083.ext E1095
  have F1149 : Exa Z h1092 b882 "[I" := F1084.ext E1095
  have F1150 : Fa Z h1092 b882 .int 2 (fun _ => (.int (0 : Int32))) := F1085.ext E1095
  have F1151 : FaA Z h1092 b127 .int "[I" 2 (up (up (fun _ => .null) 0 (.ref b603)) 1 (.ref b882)) := F1086.ext E1095
  have F1152 : Exa Z h1092 b985 "[D" := F1087.ext E1095
  have F1153 : Fa Z h1092 b985 .double 2 (fun _ => (.double (0 : UInt64))) := F1088.ext E1095
  have F1154 : FaA Z h1092 b180 .double "[D" 2 (up (up (fun _ => .null) 0 (.ref b691)) 1 (.ref b985)) := F1049.ext E1095
  have sz1155 : n0 ≤ h1092.size := Nat.le_trans sz1089 E1095.1
  have sy1156 : h0.size ≤ h1092.size := Nat.le_trans sy1090 E1095.1
  have K1157 := K1091.ext E1095
  show Wk _ p l e _ s m _ below meth c n0 _ h1092 15 30 (mkF m 113 #[.val (.ref o0), .val (.int (2 : Int32)), .val (.int (1 : Int32))] [(.ref b1093), (.int (1 : Int32)), (.ref b301)])
  refine Wk.fStA C F1148 (i := 1) (by decide) (by decide) (by decide) (F1148.sto A1096) ge312 d1_113 ?_
  intro h1158 W1159 F1160
  have F1161 : Exa Z h1158 o0 "com/example/torino/torino/AbsorbingChain" := F1115.wr W1159
  have F1162 : Fld Z h1158 o0 "com/example/torino/torino/AbsorbingChain" "markedRow" "I" (.int (-1 : Int32)) := F1116.other W1159 (Or.inl ne306)
  have F1163 : Fld Z h1158 o0 "com/example/torino/torino/AbsorbingChain" "size" "I" (.int (2 : Int32)) := F1117.other W1159 (Or.inl ne306)
  have F1164 : Exa Z h1158 b36 "[D" := F1118.wr W1159
  have F1165 : Fa Z h1158 b36 .double 2 (fun _ => (.double (0 : UInt64))) := F1119.other W1159 ne307
  have F1166 : Fld Z h1158 o0 "com/example/torino/torino/AbsorbingChain" "exitProbabilities" "[D" (.ref b36) := F1120.other W1159 (Or.inl ne306)
  have F1167 : Exa Z h1158 b79 "[D" := F1121.wr W1159
  have F1168 : Fa Z h1158 b79 .double 2 (fun _ => (.double (0 : UInt64))) := F1122.other W1159 ne308
  have F1169 : Fld Z h1158 o0 "com/example/torino/torino/AbsorbingChain" "exitValues" "[D" (.ref b79) := F1123.other W1159 (Or.inl ne306)
  have F1170 : Exa Z h1158 b127 "[[I" := F1124.wr W1159
  have F1171 : Fld Z h1158 o0 "com/example/torino/torino/AbsorbingChain" "nexts" "[[I" (.ref b127) := F1125.other W1159 (Or.inl ne306)
  have F1172 : Exa Z h1158 b180 "[[D" := F1126.wr W1159
  have F1173 : Fld Z h1158 o0 "com/example/torino/torino/AbsorbingChain" "probabilities" "[[D" (.ref b180) := F1127.other W1159 (Or.inl ne306)
  have F1174 : Exa Z h1158 b238 "[I" := F1128.wr W1159
  have F1175 : Fa Z h1158 b238 .int 2 (fun _ => (.int (0 : Int32))) := F1129.other W1159 ne311
  have F1176 : Fld Z h1158 o0 "com/example/torino/torino/AbsorbingChain" "lengths" "[I" (.ref b238) := F1130.other W1159 (Or.inl ne306)
  have F1177 : Exa Z h1158 b301 "[[I" := F1131.wr W1159
  have F1178 : Fld Z h1158 o0 "com/example/torino/torino/AbsorbingChain" "predecessors" "[[I" (.ref b301) := F1132.other W1159 (Or.inl ne306)
  have F1179 : Exa Z h1158 b369 "[I" := F1133.wr W1159
  have F1180 : Fa Z h1158 b369 .int 2 (fun _ => (.int (0 : Int32))) := F1134.other W1159 (Ne.symm ne380)
  have F1181 : Fld Z h1158 o0 "com/example/torino/torino/AbsorbingChain" "predecessorCounts" "[I" (.ref b369) := F1135.other W1159 (Or.inl ne306)
  have F1182 : Exa Z h1158 b442 "[I" := F1136.wr W1159
  have F1183 : Fa Z h1158 b442 .int 2 (fun _ => (.int (0 : Int32))) := F1137.other W1159 (Ne.symm ne453)
  have F1184 : Fld Z h1158 o0 "com/example/torino/torino/AbsorbingChain" "entryMarks" "[I" (.ref b442) := F1138.other W1159 (Or.inl ne306)
  have F1185 : Exa Z h1158 b520 "[I" := F1139.wr W1159
  have F1186 : Fa Z h1158 b520 .int 2 (fun _ => (.int (0 : Int32))) := F1140.other W1159 (Ne.symm ne531)
  have F1187 : Fld Z h1158 o0 "com/example/torino/torino/AbsorbingChain" "entries" "[I" (.ref b520) := F1141.other W1159 (Or.inl ne306)
  have F1188 : Exa Z h1158 b603 "[I" := F1142.wr W1159
  have F1189 : Fa Z h1158 b603 .int 2 (fun _ => (.int (0 : Int32))) := F1143.other W1159 (Ne.symm ne614)
  have F1190 : Exa Z h1158 b691 "[D" := F1144.wr W1159
  have F1191 : Fa Z h1158 b691 .double 2 (fun _ => (.double (0 : UInt64))) := F1145.other W1159 (Ne.symm ne702)
  have F1192 : Exa Z h1158 b784 "[I" := F1146.wr W1159
  have F1193 : Fa Z h1158 b784 .int 2 (fun _ => (.int (0 : Int32))) := F1147.other W1159 (Ne.symm ne795)
  have F1194 : Exa Z h1158 b882 "[I" := F1149.wr W1159
  have F1195 : Fa Z h1158 b882 .int 2 (fun _ => (.int (0 : Int32))) := F1150.other W1159 (Ne.symm ne893)
  have F1196 : FaA Z h1158 b127 .int "[I" 2 (up (up (fun _ => .null) 0 (.ref b603)) 1 (.ref b882)) := F1151.other W1159 ne309
  have F1197 : Exa Z h1158 b985 "[D" := F1152.wr W1159
  have F1198 : Fa Z h1158 b985 .double 2 (fun _ => (.double (0 : UInt64))) := F1153.other W1159 (Ne.symm ne996)
  have F1199 : FaA Z h1158 b180 .double "[D" 2 (up (up (fun _ => .null) 0 (.ref b691)) 1 (.ref b985)) := F1154.other W1159 ne310
  have F1200 : Exa Z h1158 b1093 "[I" := A1096.wr W1159
  have F1201 : Fa Z h1158 b1093 .int 2 (fun _ => (.int (0 : Int32))) := F1097.other W1159 (Ne.symm ne1104)
  have sz1202 : n0 ≤ h1158.size := Nat.le_trans sz1155 (Nat.le_of_eq W1159.size.symm)
  have sy1203 : h0.size ≤ h1158.size := Nat.le_trans sy1156 (Nat.le_of_eq W1159.size.symm)
  have K1204 := K1157.wr W1159 (Or.inr gz313)
  show Wk _ p l e _ s m _ below meth c n0 _ h1158 15 30 (mkF m 114 #[.val (.ref o0), .val (.int (2 : Int32)), .val (.int (1 : Int32))] [])
  refine Wk.st (g' := (mkF m 117 #[.val (.ref o0), .val (.int (2 : Int32)), .val (.int (2 : Int32))] [])) (fun X t q => XS.iinc X.here C.hx rfl (hb C.hby d1_114) rfl (l' := #[.val (.ref o0), .val (.int (2 : Int32)), .val (.int (2 : Int32))]) rfl q) ?_
  refine Wk.st (g' := (mkF m 82 #[.val (.ref o0), .val (.int (2 : Int32)), .val (.int (2 : Int32))] [])) (fun X t q => XS.goto X.here C.hx rfl (pc0 := 117) (pc' := 82) rfl (hb C.hby d1_117) (by decide) (by decide) q) ?_
  refine Wk.st (g' := (mkF m 83 #[.val (.ref o0), .val (.int (2 : Int32)), .val (.int (2 : Int32))] [(.int (2 : Int32))])) (fun X t q => XS.iloadN X.here C.hx rfl (hb C.hby d1_82) rfl q) ?_
  refine Wk.st (g' := (mkF m 84 #[.val (.ref o0), .val (.int (2 : Int32)), .val (.int (2 : Int32))] [(.int (2 : Int32)), (.int (2 : Int32))])) (fun X t q => XS.iloadN X.here C.hx rfl (hb C.hby d1_83) rfl q) ?_
  refine Wk.st (g' := (mkF m 120 #[.val (.ref o0), .val (.int (2 : Int32)), .val (.int (2 : Int32))] [])) (fun X t q => XS.icmpYes X.here C.hx rfl (pc0 := 84) (pc' := 120) rfl (hb C.hby d1_84) rfl (XT.ii_ge_t (by decide)) (by decide) (by decide) q) ?_
  exact Wk.retN0 C rfl d1_120 (by decide) (by decide) ⟨b36, b79, b127, b180, b238, b301, b369, b442, b520, b603, b882, b691, b985, b784, b1093, rfl, K1204, gz43, gz87, gz136, gz190, gz249, gz313, gz382, gz456, gz535, gz619, gz901, gz708, gz1005, gz802, gz1114, ne85, ne133, ne186, ne244, ne307, ne375, ne448, ne526, ne609, ne888, ne697, ne991, ne790, ne1099, ne134, ne187, ne245, ne308, ne376, ne449, ne527, ne610, ne889, ne698, ne992, ne791, ne1100, ne188, ne246, ne309, ne377, ne450, ne528, ne611, ne890, ne699, ne993, ne792, ne1101, ne247, ne310, ne378, ne451, ne529, ne612, ne891, ne700, ne994, ne793, ne1102, ne311, ne379, ne452, ne530, ne613, ne892, ne701, ne995, ne794, ne1103, ne380, ne453, ne531, ne614, ne893, ne702, ne996, ne795, ne1104, ne454, ne532, ne615, ne894, ne703, ne997, ne796, ne1105, ne533, ne616, ne895, ne704, ne998, ne797, ne1106, ne617, ne896, ne705, ne999, ne798, ne1107, ne897, ne706, ne1000, ne799, ne1108, (Ne.symm ne898), ne1003, (Ne.symm ne899), ne1111, ne1001, ne800, ne1109, (Ne.symm ne1002), ne1112, ne1110, F1162, F1163, F1164, F1165, F1166, F1167, F1168, F1169, F1170, F1171, F1172, F1173, F1174, F1175, F1176, F1177, F1178, F1179, F1180, F1181, F1182, F1183, F1184, F1185, F1186, F1187, F1188, F1189, F1190, F1191, F1192, F1193, F1194, F1195, F1196, F1197, F1198, F1199, F1200, F1201, F1160⟩
theorem d3_0 : decode prog_1_method_3_code 0 = .ok (.aload_n 0, 1) := by decide +kernel
theorem d3_1 : decode prog_1_method_3_code 1 = .ok (.getfield 16, 3) := by decide +kernel
theorem d3_4 : decode prog_1_method_3_code 4 = .ok (.iload_n 1, 1) := by decide +kernel
theorem d3_5 : decode prog_1_method_3_code 5 = .ok (.dup2, 1) := by decide +kernel
theorem d3_6 : decode prog_1_method_3_code 6 = .ok (.daload, 1) := by decide +kernel
theorem d3_7 : decode prog_1_method_3_code 7 = .ok (.dload_n 2, 1) := by decide +kernel
theorem d3_8 : decode prog_1_method_3_code 8 = .ok (.dadd, 1) := by decide +kernel
theorem d3_9 : decode prog_1_method_3_code 9 = .ok (.dastore, 1) := by decide +kernel
theorem d3_10 : decode prog_1_method_3_code 10 = .ok (.aload_n 0, 1) := by decide +kernel
theorem d3_11 : decode prog_1_method_3_code 11 = .ok (.getfield 20, 3) := by decide +kernel
theorem d3_14 : decode prog_1_method_3_code 14 = .ok (.iload_n 1, 1) := by decide +kernel
theorem d3_15 : decode prog_1_method_3_code 15 = .ok (.dup2, 1) := by decide +kernel
theorem d3_16 : decode prog_1_method_3_code 16 = .ok (.daload, 1) := by decide +kernel
theorem d3_17 : decode prog_1_method_3_code 17 = .ok (.dload_n 2, 1) := by decide +kernel
theorem d3_18 : decode prog_1_method_3_code 18 = .ok (.dload 4, 2) := by decide +kernel
theorem d3_20 : decode prog_1_method_3_code 20 = .ok (.dmul, 1) := by decide +kernel
theorem d3_21 : decode prog_1_method_3_code 21 = .ok (.dadd, 1) := by decide +kernel
theorem d3_22 : decode prog_1_method_3_code 22 = .ok (.dastore, 1) := by decide +kernel
theorem d3_23 : decode prog_1_method_3_code 23 = .ok (.return_, 1) := by decide +kernel
set_option maxRecDepth 65536 in
set_option maxHeartbeats 40000000 in
theorem own_3_1 (l : Launch) (Z : State) (a0 : Array Value) (hw : ∀ d ∈ tables_1, d.before a0 Z = true) (n0 : Nat) (h0 : Heap) (hsz : n0 ≤ h0.size) (o0 : Addr) (o1 : Addr) (o2 : Addr) (o3 : Addr) (o4 : Addr) (o5 : Addr) (o6 : Addr) (o7 : Addr) (o8 : Addr) (o9 : Addr) (o10 : Addr) (o11 : Addr) (o12 : Addr) (o13 : Addr) (o14 : Addr) (o15 : Addr) (z0 : UInt64) (z1 : UInt64) (P0 : Exa Z h0 o0 "com/example/torino/torino/AbsorbingChain") (P1 : Fld Z h0 o0 "com/example/torino/torino/AbsorbingChain" "markedRow" "I" (.int (-1 : Int32))) (P2 : Fld Z h0 o0 "com/example/torino/torino/AbsorbingChain" "size" "I" (.int (2 : Int32))) (P3 : Exa Z h0 o1 "[D") (P4 : Fa Z h0 o1 .double 2 (fun _ => (.double (0 : UInt64)))) (P5 : Fld Z h0 o0 "com/example/torino/torino/AbsorbingChain" "exitProbabilities" "[D" (.ref o1)) (P6 : Exa Z h0 o2 "[D") (P7 : Fa Z h0 o2 .double 2 (fun _ => (.double (0 : UInt64)))) (P8 : Fld Z h0 o0 "com/example/torino/torino/AbsorbingChain" "exitValues" "[D" (.ref o2)) (P9 : Exa Z h0 o3 "[[I") (P10 : Fld Z h0 o0 "com/example/torino/torino/AbsorbingChain" "nexts" "[[I" (.ref o3)) (P11 : Exa Z h0 o4 "[[D") (P12 : Fld Z h0 o0 "com/example/torino/torino/AbsorbingChain" "probabilities" "[[D" (.ref o4)) (P13 : Exa Z h0 o5 "[I") (P14 : Fa Z h0 o5 .int 2 (fun _ => (.int (0 : Int32)))) (P15 : Fld Z h0 o0 "com/example/torino/torino/AbsorbingChain" "lengths" "[I" (.ref o5)) (P16 : Exa Z h0 o6 "[[I") (P17 : Fld Z h0 o0 "com/example/torino/torino/AbsorbingChain" "predecessors" "[[I" (.ref o6)) (P18 : Exa Z h0 o7 "[I") (P19 : Fa Z h0 o7 .int 2 (fun _ => (.int (0 : Int32)))) (P20 : Fld Z h0 o0 "com/example/torino/torino/AbsorbingChain" "predecessorCounts" "[I" (.ref o7)) (P21 : Exa Z h0 o8 "[I") (P22 : Fa Z h0 o8 .int 2 (fun _ => (.int (0 : Int32)))) (P23 : Fld Z h0 o0 "com/example/torino/torino/AbsorbingChain" "entryMarks" "[I" (.ref o8)) (P24 : Exa Z h0 o9 "[I") (P25 : Fa Z h0 o9 .int 2 (fun _ => (.int (0 : Int32)))) (P26 : Fld Z h0 o0 "com/example/torino/torino/AbsorbingChain" "entries" "[I" (.ref o9)) (P27 : Exa Z h0 o10 "[I") (P28 : Fa Z h0 o10 .int 2 (fun _ => (.int (0 : Int32)))) (P29 : Exa Z h0 o12 "[D") (P30 : Fa Z h0 o12 .double 2 (fun _ => (.double (0 : UInt64)))) (P31 : Exa Z h0 o14 "[I") (P32 : Fa Z h0 o14 .int 2 (fun _ => (.int (0 : Int32)))) (P33 : Exa Z h0 o11 "[I") (P34 : Fa Z h0 o11 .int 2 (fun _ => (.int (0 : Int32)))) (P35 : FaA Z h0 o3 .int "[I" 2 (up (up (fun _ => .null) 0 (.ref o10)) 1 (.ref o11))) (P36 : Exa Z h0 o13 "[D") (P37 : Fa Z h0 o13 .double 2 (fun _ => (.double (0 : UInt64)))) (P38 : FaA Z h0 o4 .double "[D" 2 (up (up (fun _ => .null) 0 (.ref o12)) 1 (.ref o13))) (P39 : Exa Z h0 o15 "[I") (P40 : Fa Z h0 o15 .int 2 (fun _ => (.int (0 : Int32)))) (P41 : FaA Z h0 o6 .int "[I" 2 (up (up (fun _ => .null) 0 (.ref o14)) 1 (.ref o15))) (N_o0_o1 : o0 ≠ o1) (N_o0_o2 : o0 ≠ o2) (N_o0_o3 : o0 ≠ o3) (N_o0_o4 : o0 ≠ o4) (N_o0_o5 : o0 ≠ o5) (N_o0_o6 : o0 ≠ o6) (N_o0_o7 : o0 ≠ o7) (N_o0_o8 : o0 ≠ o8) (N_o0_o9 : o0 ≠ o9) (N_o0_o10 : o0 ≠ o10) (N_o0_o11 : o0 ≠ o11) (N_o0_o12 : o0 ≠ o12) (N_o0_o13 : o0 ≠ o13) (N_o0_o14 : o0 ≠ o14) (N_o0_o15 : o0 ≠ o15) (N_o1_o2 : o1 ≠ o2) (N_o1_o3 : o1 ≠ o3) (N_o1_o4 : o1 ≠ o4) (N_o1_o5 : o1 ≠ o5) (N_o1_o6 : o1 ≠ o6) (N_o1_o7 : o1 ≠ o7) (N_o1_o8 : o1 ≠ o8) (N_o1_o9 : o1 ≠ o9) (N_o1_o10 : o1 ≠ o10) (N_o1_o11 : o1 ≠ o11) (N_o1_o12 : o1 ≠ o12) (N_o1_o13 : o1 ≠ o13) (N_o1_o14 : o1 ≠ o14) (N_o1_o15 : o1 ≠ o15) (N_o2_o3 : o2 ≠ o3) (N_o2_o4 : o2 ≠ o4) (N_o2_o5 : o2 ≠ o5) (N_o2_o6 : o2 ≠ o6) (N_o2_o7 : o2 ≠ o7) (N_o2_o8 : o2 ≠ o8) (N_o2_o9 : o2 ≠ o9) (N_o2_o10 : o2 ≠ o10) (N_o2_o11 : o2 ≠ o11) (N_o2_o12 : o2 ≠ o12) (N_o2_o13 : o2 ≠ o13) (N_o2_o14 : o2 ≠ o14) (N_o2_o15 : o2 ≠ o15) (N_o3_o4 : o3 ≠ o4) (N_o3_o5 : o3 ≠ o5) (N_o3_o6 : o3 ≠ o6) (N_o3_o7 : o3 ≠ o7) (N_o3_o8 : o3 ≠ o8) (N_o3_o9 : o3 ≠ o9) (N_o3_o10 : o3 ≠ o10) (N_o3_o11 : o3 ≠ o11) (N_o3_o12 : o3 ≠ o12) (N_o3_o13 : o3 ≠ o13) (N_o3_o14 : o3 ≠ o14) (N_o3_o15 : o3 ≠ o15) (N_o4_o5 : o4 ≠ o5) (N_o4_o6 : o4 ≠ o6) (N_o4_o7 : o4 ≠ o7) (N_o4_o8 : o4 ≠ o8) (N_o4_o9 : o4 ≠ o9) (N_o4_o10 : o4 ≠ o10) (N_o4_o11 : o4 ≠ o11) (N_o4_o12 : o4 ≠ o12) (N_o4_o13 : o4 ≠ o13) (N_o4_o14 : o4 ≠ o14) (N_o4_o15 : o4 ≠ o15) (N_o5_o6 : o5 ≠ o6) (N_o5_o7 : o5 ≠ o7) (N_o5_o8 : o5 ≠ o8) (N_o5_o9 : o5 ≠ o9) (N_o5_o10 : o5 ≠ o10) (N_o5_o11 : o5 ≠ o11) (N_o5_o12 : o5 ≠ o12) (N_o5_o13 : o5 ≠ o13) (N_o5_o14 : o5 ≠ o14) (N_o5_o15 : o5 ≠ o15) (N_o6_o7 : o6 ≠ o7) (N_o6_o8 : o6 ≠ o8) (N_o6_o9 : o6 ≠ o9) (N_o6_o10 : o6 ≠ o10) (N_o6_o11 : o6 ≠ o11) (N_o6_o12 : o6 ≠ o12) (N_o6_o13 : o6 ≠ o13) (N_o6_o14 : o6 ≠ o14) (N_o6_o15 : o6 ≠ o15) (N_o7_o8 : o7 ≠ o8) (N_o7_o9 : o7 ≠ o9) (N_o7_o10 : o7 ≠ o10) (N_o7_o11 : o7 ≠ o11) (N_o7_o12 : o7 ≠ o12) (N_o7_o13 : o7 ≠ o13) (N_o7_o14 : o7 ≠ o14) (N_o7_o15 : o7 ≠ o15) (N_o8_o9 : o8 ≠ o9) (N_o8_o10 : o8 ≠ o10) (N_o8_o11 : o8 ≠ o11) (N_o8_o12 : o8 ≠ o12) (N_o8_o13 : o8 ≠ o13) (N_o8_o14 : o8 ≠ o14) (N_o8_o15 : o8 ≠ o15) (N_o9_o10 : o9 ≠ o10) (N_o9_o11 : o9 ≠ o11) (N_o9_o12 : o9 ≠ o12) (N_o9_o13 : o9 ≠ o13) (N_o9_o14 : o9 ≠ o14) (N_o9_o15 : o9 ≠ o15) (N_o10_o11 : o10 ≠ o11) (N_o10_o12 : o10 ≠ o12) (N_o10_o13 : o10 ≠ o13) (N_o10_o14 : o10 ≠ o14) (N_o10_o15 : o10 ≠ o15) (N_o11_o12 : o11 ≠ o12) (N_o11_o13 : o11 ≠ o13) (N_o11_o14 : o11 ≠ o14) (N_o11_o15 : o11 ≠ o15) (N_o12_o13 : o12 ≠ o13) (N_o12_o14 : o12 ≠ o14) (N_o12_o15 : o12 ≠ o15) (N_o13_o14 : o13 ≠ o14) (N_o13_o15 : o13 ≠ o15) (N_o14_o15 : o14 ≠ o15) (G_o0 : n0 ≤ o0) (G_o1 : n0 ≤ o1) (G_o2 : n0 ≤ o2) (G_o3 : n0 ≤ o3) (G_o4 : n0 ≤ o4) (G_o5 : n0 ≤ o5) (G_o6 : n0 ≤ o6) (G_o7 : n0 ≤ o7) (G_o8 : n0 ≤ o8) (G_o9 : n0 ≤ o9) (G_o10 : n0 ≤ o10) (G_o11 : n0 ≤ o11) (G_o12 : n0 ≤ o12) (G_o13 : n0 ≤ o13) (G_o14 : n0 ≤ o14) (G_o15 : n0 ≤ o15) (nn_0 : Jvm.Free.Fl.NoNaN64 (FP.dadd (0 : UInt64) z0)) (nn_1 : Jvm.Free.Fl.NoNaN64 (FP.dmul z0 z1)) (nn_2 : Jvm.Free.Fl.NoNaN64 (FP.dadd (0 : UInt64) (FP.dmul z0 z1))) :
    Met false l Z n0 (⟨"com/example/torino/torino/AbsorbingChain", "addExit", "(IDD)V"⟩ : MethodName) prog_1_method_3_code 6 none ({ frames := 0, cells := 0, slots := 0, locals := 0 } : Room) #[(.ref o0), (.int (0 : Int32)), (.double z0), (.double z1)] h0 (fun v h => v = none ∧ Keep h0 h [o1, o2] ∧ Fa Z h o1 .double 2 (up (fun _ => (.double (0 : UInt64))) 0 (.double (FP.dadd (0 : UInt64) z0))) ∧ Fa Z h o2 .double 2 (up (fun _ => (.double (0 : UInt64))) 0 (.double (FP.dadd (0 : UInt64) (FP.dmul z0 z1))))) := by
  refine Met.of (plainFor_of_name pn_0) #[.val (.ref o0), .val (.int (0 : Int32)), .val (.double z0), .second, .val (.double z1), .second] (fun m => by first | (simp [entryFrame, mkF, argsToLocals, Value.category]; done) | rfl) ?_
  intro p e s m below meth c C
  refine Wk.st (g' := (mkF m 1 #[.val (.ref o0), .val (.int (0 : Int32)), .val (.double z0), .second, .val (.double z1), .second] [(.ref o0)])) (fun X t q => XS.aloadN X.here C.hx rfl (hb C.hby d3_0) rfl rfl q) ?_
  refine Wk.getF C (hw _ (List.mem_of_getElem? (i := 14) rfl)) Via.refl P5 d3_1 ?_
  show Wk _ p l e _ s m _ below meth c n0 _ h0 0 0 (mkF m 4 #[.val (.ref o0), .val (.int (0 : Int32)), .val (.double z0), .second, .val (.double z1), .second] [(.ref o1)])
  refine Wk.st (g' := (mkF m 5 #[.val (.ref o0), .val (.int (0 : Int32)), .val (.double z0), .second, .val (.double z1), .second] [(.int (0 : Int32)), (.ref o1)])) (fun X t q => XS.iloadN X.here C.hx rfl (hb C.hby d3_4) rfl q) ?_
  refine Wk.st (g' := (mkF m 6 #[.val (.ref o0), .val (.int (0 : Int32)), .val (.double z0), .second, .val (.double z1), .second] [(.int (0 : Int32)), (.ref o1), (.int (0 : Int32)), (.ref o1)])) (fun X t q => XT.dup2 X.here C.hx rfl (hb C.hby d3_5) rfl rfl rfl q) ?_
  refine Wk.fLdD C P4 (i := 0) (by decide) (by decide) (by decide) (v := (.double (0 : UInt64))) rfl d3_6 ?_
  show Wk _ p l e _ s m _ below meth c n0 _ h0 0 0 (mkF m 7 #[.val (.ref o0), .val (.int (0 : Int32)), .val (.double z0), .second, .val (.double z1), .second] [(.double (0 : UInt64)), (.int (0 : Int32)), (.ref o1)])
  refine Wk.st (g' := (mkF m 8 #[.val (.ref o0), .val (.int (0 : Int32)), .val (.double z0), .second, .val (.double z1), .second] [(.double z0), (.double (0 : UInt64)), (.int (0 : Int32)), (.ref o1)])) (fun X t q => XS.dloadN X.here C.hx rfl (hb C.hby d3_7) rfl q) ?_
  refine Wk.st (g' := (mkF m 9 #[.val (.ref o0), .val (.int (0 : Int32)), .val (.double z0), .second, .val (.double z1), .second] [(.double (FP.dadd (0 : UInt64) z0)), (.int (0 : Int32)), (.ref o1)])) (fun X t q => XS.daddS X.here C.hx rfl (hb C.hby d3_8) rfl nn_0 rfl q) ?_
  refine Wk.fStD C P4 (i := 0) (by decide) (by decide) (by decide) G_o1 d3_9 ?_
  intro h1 W2 F3
  have F4 : Exa Z h1 o0 "com/example/torino/torino/AbsorbingChain" := P0.wr W2
  have F5 : Fld Z h1 o0 "com/example/torino/torino/AbsorbingChain" "markedRow" "I" (.int (-1 : Int32)) := P1.other W2 (Or.inl N_o0_o1)
  have F6 : Fld Z h1 o0 "com/example/torino/torino/AbsorbingChain" "size" "I" (.int (2 : Int32)) := P2.other W2 (Or.inl N_o0_o1)
  have F7 : Exa Z h1 o1 "[D" := P3.wr W2
  have F8 : Fld Z h1 o0 "com/example/torino/torino/AbsorbingChain" "exitProbabilities" "[D" (.ref o1) := P5.other W2 (Or.inl N_o0_o1)
  have F9 : Exa Z h1 o2 "[D" := P6.wr W2
  have F10 : Fa Z h1 o2 .double 2 (fun _ => (.double (0 : UInt64))) := P7.other W2 (Ne.symm N_o1_o2)
  have F11 : Fld Z h1 o0 "com/example/torino/torino/AbsorbingChain" "exitValues" "[D" (.ref o2) := P8.other W2 (Or.inl N_o0_o1)
  have F12 : Exa Z h1 o3 "[[I" := P9.wr W2
  have F13 : Fld Z h1 o0 "com/example/torino/torino/AbsorbingChain" "nexts" "[[I" (.ref o3) := P10.other W2 (Or.inl N_o0_o1)
  have F14 : Exa Z h1 o4 "[[D" := P11.wr W2
  have F15 : Fld Z h1 o0 "com/example/torino/torino/AbsorbingChain" "probabilities" "[[D" (.ref o4) := P12.other W2 (Or.inl N_o0_o1)
  have F16 : Exa Z h1 o5 "[I" := P13.wr W2
  have F17 : Fa Z h1 o5 .int 2 (fun _ => (.int (0 : Int32))) := P14.other W2 (Ne.symm N_o1_o5)
  have F18 : Fld Z h1 o0 "com/example/torino/torino/AbsorbingChain" "lengths" "[I" (.ref o5) := P15.other W2 (Or.inl N_o0_o1)
  have F19 : Exa Z h1 o6 "[[I" := P16.wr W2
  have F20 : Fld Z h1 o0 "com/example/torino/torino/AbsorbingChain" "predecessors" "[[I" (.ref o6) := P17.other W2 (Or.inl N_o0_o1)
  have F21 : Exa Z h1 o7 "[I" := P18.wr W2
  have F22 : Fa Z h1 o7 .int 2 (fun _ => (.int (0 : Int32))) := P19.other W2 (Ne.symm N_o1_o7)
  have F23 : Fld Z h1 o0 "com/example/torino/torino/AbsorbingChain" "predecessorCounts" "[I" (.ref o7) := P20.other W2 (Or.inl N_o0_o1)
  have F24 : Exa Z h1 o8 "[I" := P21.wr W2
  have F25 : Fa Z h1 o8 .int 2 (fun _ => (.int (0 : Int32))) := P22.other W2 (Ne.symm N_o1_o8)
  have F26 : Fld Z h1 o0 "com/example/torino/torino/AbsorbingChain" "entryMarks" "[I" (.ref o8) := P23.other W2 (Or.inl N_o0_o1)
  have F27 : Exa Z h1 o9 "[I" := P24.wr W2
  have F28 : Fa Z h1 o9 .int 2 (fun _ => (.int (0 : Int32))) := P25.other W2 (Ne.symm N_o1_o9)
  have F29 : Fld Z h1 o0 "com/example/torino/torino/AbsorbingChain" "entries" "[I" (.ref o9) := P26.other W2 (Or.inl N_o0_o1)
  have F30 : Exa Z h1 o10 "[I" := P27.wr W2
  have F31 : Fa Z h1 o10 .int 2 (fun _ => (.int (0 : Int32))) := P28.other W2 (Ne.symm N_o1_o10)
  have F32 : Exa Z h1 o12 "[D" := P29.wr W2
  have F33 : Fa Z h1 o12 .double 2 (fun _ => (.double (0 : UInt64))) := P30.other W2 (Ne.symm N_o1_o12)
  have F34 : Exa Z h1 o14 "[I" := P31.wr W2
  have F35 : Fa Z h1 o14 .int 2 (fun _ => (.int (0 : Int32))) := P32.other W2 (Ne.symm N_o1_o14)
  have F36 : Exa Z h1 o11 "[I" := P33.wr W2
  have F37 : Fa Z h1 o11 .int 2 (fun _ => (.int (0 : Int32))) := P34.other W2 (Ne.symm N_o1_o11)
  have F38 : FaA Z h1 o3 .int "[I" 2 (up (up (fun _ => .null) 0 (.ref o10)) 1 (.ref o11)) := P35.other W2 (Ne.symm N_o1_o3)
  have F39 : Exa Z h1 o13 "[D" := P36.wr W2
  have F40 : Fa Z h1 o13 .double 2 (fun _ => (.double (0 : UInt64))) := P37.other W2 (Ne.symm N_o1_o13)
  have F41 : FaA Z h1 o4 .double "[D" 2 (up (up (fun _ => .null) 0 (.ref o12)) 1 (.ref o13)) := P38.other W2 (Ne.symm N_o1_o4)
  have F42 : Exa Z h1 o15 "[I" := P39.wr W2
  have F43 : Fa Z h1 o15 .int 2 (fun _ => (.int (0 : Int32))) := P40.other W2 (Ne.symm N_o1_o15)
  have F44 : FaA Z h1 o6 .int "[I" 2 (up (up (fun _ => .null) 0 (.ref o14)) 1 (.ref o15)) := P41.other W2 (Ne.symm N_o1_o6)
  have sz45 : n0 ≤ h1.size := Nat.le_trans hsz (Nat.le_of_eq W2.size.symm)
  have sy46 : h0.size ≤ h1.size := Nat.le_trans (Nat.le_refl h0.size) (Nat.le_of_eq W2.size.symm)
  have K47 := (Keep.refl h0 [o1, o2]).wr W2 (Or.inl (by simp))
  show Wk _ p l e _ s m _ below meth c n0 _ h1 0 0 (mkF m 10 #[.val (.ref o0), .val (.int (0 : Int32)), .val (.double z0), .second, .val (.double z1), .second] [])
  refine Wk.st (g' := (mkF m 11 #[.val (.ref o0), .val (.int (0 : Int32)), .val (.double z0), .second, .val (.double z1), .second] [(.ref o0)])) (fun X t q => XS.aloadN X.here C.hx rfl (hb C.hby d3_10) rfl rfl q) ?_
  refine Wk.getF C (hw _ (List.mem_of_getElem? (i := 16) rfl)) Via.refl F11 d3_11 ?_
  show Wk _ p l e _ s m _ below meth c n0 _ h1 0 0 (mkF m 14 #[.val (.ref o0), .val (.int (0 : Int32)), .val (.double z0), .second, .val (.double z1), .second] [(.ref o2)])
  refine Wk.st (g' := (mkF m 15 #[.val (.ref o0), .val (.int (0 : Int32)), .val (.double z0), .second, .val (.double z1), .second] [(.int (0 : Int32)), (.ref o2)])) (fun X t q => XS.iloadN X.here C.hx rfl (hb C.hby d3_14) rfl q) ?_
  refine Wk.st (g' := (mkF m 16 #[.val (.ref o0), .val (.int (0 : Int32)), .val (.double z0), .second, .val (.double z1), .second] [(.int (0 : Int32)), (.ref o2), (.int (0 : Int32)), (.ref o2)])) (fun X t q => XT.dup2 X.here C.hx rfl (hb C.hby d3_15) rfl rfl rfl q) ?_
  refine Wk.fLdD C F10 (i := 0) (by decide) (by decide) (by decide) (v := (.double (0 : UInt64))) rfl d3_16 ?_
  show Wk _ p l e _ s m _ below meth c n0 _ h1 0 0 (mkF m 17 #[.val (.ref o0), .val (.int (0 : Int32)), .val (.double z0), .second, .val (.double z1), .second] [(.double (0 : UInt64)), (.int (0 : Int32)), (.ref o2)])
  refine Wk.st (g' := (mkF m 18 #[.val (.ref o0), .val (.int (0 : Int32)), .val (.double z0), .second, .val (.double z1), .second] [(.double z0), (.double (0 : UInt64)), (.int (0 : Int32)), (.ref o2)])) (fun X t q => XS.dloadN X.here C.hx rfl (hb C.hby d3_17) rfl q) ?_
  refine Wk.st (g' := (mkF m 20 #[.val (.ref o0), .val (.int (0 : Int32)), .val (.double z0), .second, .val (.double z1), .second] [(.double z1), (.double z0), (.double (0 : UInt64)), (.int (0 : Int32)), (.ref o2)])) (fun X t q => XS.dload X.here C.hx rfl (hb C.hby d3_18) rfl q) ?_
  refine Wk.st (g' := (mkF m 21 #[.val (.ref o0), .val (.int (0 : Int32)), .val (.double z0), .second, .val (.double z1), .second] [(.double (FP.dmul z0 z1)), (.double (0 : UInt64)), (.int (0 : Int32)), (.ref o2)])) (fun X t q => XS.dmulS X.here C.hx rfl (hb C.hby d3_20) rfl nn_1 rfl q) ?_
  refine Wk.st (g' := (mkF m 22 #[.val (.ref o0), .val (.int (0 : Int32)), .val (.double z0), .second, .val (.double z1), .second] [(.double (FP.dadd (0 : UInt64) (FP.dmul z0 z1))), (.int (0 : Int32)), (.ref o2)])) (fun X t q => XS.daddS X.here C.hx rfl (hb C.hby d3_21) rfl nn_2 rfl q) ?_
  refine Wk.fStD C F10 (i := 0) (by decide) (by decide) (by decide) G_o2 d3_22 ?_
  intro h48 W49 F50
  have F51 : Exa Z h48 o0 "com/example/torino/torino/AbsorbingChain" := F4.wr W49
  have F52 : Fld Z h48 o0 "com/example/torino/torino/AbsorbingChain" "markedRow" "I" (.int (-1 : Int32)) := F5.other W49 (Or.inl N_o0_o2)
  have F53 : Fld Z h48 o0 "com/example/torino/torino/AbsorbingChain" "size" "I" (.int (2 : Int32)) := F6.other W49 (Or.inl N_o0_o2)
  have F54 : Exa Z h48 o1 "[D" := F7.wr W49
  have F55 : Fld Z h48 o0 "com/example/torino/torino/AbsorbingChain" "exitProbabilities" "[D" (.ref o1) := F8.other W49 (Or.inl N_o0_o2)
  have F56 : Exa Z h48 o2 "[D" := F9.wr W49
  have F57 : Fld Z h48 o0 "com/example/torino/torino/AbsorbingChain" "exitValues" "[D" (.ref o2) := F11.other W49 (Or.inl N_o0_o2)
  have F58 : Exa Z h48 o3 "[[I" := F12.wr W49
  have F59 : Fld Z h48 o0 "com/example/torino/torino/AbsorbingChain" "nexts" "[[I" (.ref o3) := F13.other W49 (Or.inl N_o0_o2)
  have F60 : Exa Z h48 o4 "[[D" := F14.wr W49
  have F61 : Fld Z h48 o0 "com/example/torino/torino/AbsorbingChain" "probabilities" "[[D" (.ref o4) := F15.other W49 (Or.inl N_o0_o2)
  have F62 : Exa Z h48 o5 "[I" := F16.wr W49
  have F63 : Fa Z h48 o5 .int 2 (fun _ => (.int (0 : Int32))) := F17.other W49 (Ne.symm N_o2_o5)
  have F64 : Fld Z h48 o0 "com/example/torino/torino/AbsorbingChain" "lengths" "[I" (.ref o5) := F18.other W49 (Or.inl N_o0_o2)
  have F65 : Exa Z h48 o6 "[[I" := F19.wr W49
  have F66 : Fld Z h48 o0 "com/example/torino/torino/AbsorbingChain" "predecessors" "[[I" (.ref o6) := F20.other W49 (Or.inl N_o0_o2)
  have F67 : Exa Z h48 o7 "[I" := F21.wr W49
  have F68 : Fa Z h48 o7 .int 2 (fun _ => (.int (0 : Int32))) := F22.other W49 (Ne.symm N_o2_o7)
  have F69 : Fld Z h48 o0 "com/example/torino/torino/AbsorbingChain" "predecessorCounts" "[I" (.ref o7) := F23.other W49 (Or.inl N_o0_o2)
  have F70 : Exa Z h48 o8 "[I" := F24.wr W49
  have F71 : Fa Z h48 o8 .int 2 (fun _ => (.int (0 : Int32))) := F25.other W49 (Ne.symm N_o2_o8)
  have F72 : Fld Z h48 o0 "com/example/torino/torino/AbsorbingChain" "entryMarks" "[I" (.ref o8) := F26.other W49 (Or.inl N_o0_o2)
  have F73 : Exa Z h48 o9 "[I" := F27.wr W49
  have F74 : Fa Z h48 o9 .int 2 (fun _ => (.int (0 : Int32))) := F28.other W49 (Ne.symm N_o2_o9)
  have F75 : Fld Z h48 o0 "com/example/torino/torino/AbsorbingChain" "entries" "[I" (.ref o9) := F29.other W49 (Or.inl N_o0_o2)
  have F76 : Exa Z h48 o10 "[I" := F30.wr W49
  have F77 : Fa Z h48 o10 .int 2 (fun _ => (.int (0 : Int32))) := F31.other W49 (Ne.symm N_o2_o10)
  have F78 : Exa Z h48 o12 "[D" := F32.wr W49
  have F79 : Fa Z h48 o12 .double 2 (fun _ => (.double (0 : UInt64))) := F33.other W49 (Ne.symm N_o2_o12)
  have F80 : Exa Z h48 o14 "[I" := F34.wr W49
  have F81 : Fa Z h48 o14 .int 2 (fun _ => (.int (0 : Int32))) := F35.other W49 (Ne.symm N_o2_o14)
  have F82 : Exa Z h48 o11 "[I" := F36.wr W49
  have F83 : Fa Z h48 o11 .int 2 (fun _ => (.int (0 : Int32))) := F37.other W49 (Ne.symm N_o2_o11)
  have F84 : FaA Z h48 o3 .int "[I" 2 (up (up (fun _ => .null) 0 (.ref o10)) 1 (.ref o11)) := F38.other W49 (Ne.symm N_o2_o3)
  have F85 : Exa Z h48 o13 "[D" := F39.wr W49
  have F86 : Fa Z h48 o13 .double 2 (fun _ => (.double (0 : UInt64))) := F40.other W49 (Ne.symm N_o2_o13)
  have F87 : FaA Z h48 o4 .double "[D" 2 (up (up (fun _ => .null) 0 (.ref o12)) 1 (.ref o13)) := F41.other W49 (Ne.symm N_o2_o4)
  have F88 : Exa Z h48 o15 "[I" := F42.wr W49
  have F89 : Fa Z h48 o15 .int 2 (fun _ => (.int (0 : Int32))) := F43.other W49 (Ne.symm N_o2_o15)
  have F90 : FaA Z h48 o6 .int "[I" 2 (up (up (fun _ => .null) 0 (.ref o14)) 1 (.ref o15)) := F44.other W49 (Ne.symm N_o2_o6)
  have F91 : Fa Z h48 o1 .double 2 (up (fun _ => (.double (0 : UInt64))) 0 (.double (FP.dadd (0 : UInt64) z0))) := F3.other W49 N_o1_o2
  have sz92 : n0 ≤ h48.size := Nat.le_trans sz45 (Nat.le_of_eq W49.size.symm)
  have sy93 : h0.size ≤ h48.size := Nat.le_trans sy46 (Nat.le_of_eq W49.size.symm)
  have K94 := K47.wr W49 (Or.inl (by simp))
  show Wk _ p l e _ s m _ below meth c n0 _ h48 0 0 (mkF m 23 #[.val (.ref o0), .val (.int (0 : Int32)), .val (.double z0), .second, .val (.double z1), .second] [])
  exact Wk.retN0 C rfl d3_23 (by decide) (by decide) ⟨rfl, K94, F91, F50⟩
set_option maxRecDepth 65536 in
set_option maxHeartbeats 40000000 in
theorem own_3_2 (l : Launch) (Z : State) (a0 : Array Value) (hw : ∀ d ∈ tables_1, d.before a0 Z = true) (n0 : Nat) (h0 : Heap) (hsz : n0 ≤ h0.size) (o0 : Addr) (o1 : Addr) (o2 : Addr) (o3 : Addr) (o4 : Addr) (o5 : Addr) (o6 : Addr) (o7 : Addr) (o8 : Addr) (o9 : Addr) (o10 : Addr) (o11 : Addr) (o12 : Addr) (o13 : Addr) (o14 : Addr) (o15 : Addr) (z0 : UInt64) (z1 : UInt64) (z2 : UInt64) (z3 : UInt64) (P0 : Exa Z h0 o0 "com/example/torino/torino/AbsorbingChain") (P1 : Fld Z h0 o0 "com/example/torino/torino/AbsorbingChain" "markedRow" "I" (.int (-1 : Int32))) (P2 : Fld Z h0 o0 "com/example/torino/torino/AbsorbingChain" "size" "I" (.int (2 : Int32))) (P3 : Exa Z h0 o1 "[D") (P4 : Fld Z h0 o0 "com/example/torino/torino/AbsorbingChain" "exitProbabilities" "[D" (.ref o1)) (P5 : Exa Z h0 o2 "[D") (P6 : Fld Z h0 o0 "com/example/torino/torino/AbsorbingChain" "exitValues" "[D" (.ref o2)) (P7 : Exa Z h0 o3 "[[I") (P8 : Fld Z h0 o0 "com/example/torino/torino/AbsorbingChain" "nexts" "[[I" (.ref o3)) (P9 : Exa Z h0 o4 "[[D") (P10 : Fld Z h0 o0 "com/example/torino/torino/AbsorbingChain" "probabilities" "[[D" (.ref o4)) (P11 : Exa Z h0 o5 "[I") (P12 : Fa Z h0 o5 .int 2 (fun _ => (.int (0 : Int32)))) (P13 : Fld Z h0 o0 "com/example/torino/torino/AbsorbingChain" "lengths" "[I" (.ref o5)) (P14 : Exa Z h0 o6 "[[I") (P15 : Fld Z h0 o0 "com/example/torino/torino/AbsorbingChain" "predecessors" "[[I" (.ref o6)) (P16 : Exa Z h0 o7 "[I") (P17 : Fa Z h0 o7 .int 2 (fun _ => (.int (0 : Int32)))) (P18 : Fld Z h0 o0 "com/example/torino/torino/AbsorbingChain" "predecessorCounts" "[I" (.ref o7)) (P19 : Exa Z h0 o8 "[I") (P20 : Fa Z h0 o8 .int 2 (fun _ => (.int (0 : Int32)))) (P21 : Fld Z h0 o0 "com/example/torino/torino/AbsorbingChain" "entryMarks" "[I" (.ref o8)) (P22 : Exa Z h0 o9 "[I") (P23 : Fa Z h0 o9 .int 2 (fun _ => (.int (0 : Int32)))) (P24 : Fld Z h0 o0 "com/example/torino/torino/AbsorbingChain" "entries" "[I" (.ref o9)) (P25 : Exa Z h0 o10 "[I") (P26 : Fa Z h0 o10 .int 2 (fun _ => (.int (0 : Int32)))) (P27 : Exa Z h0 o12 "[D") (P28 : Fa Z h0 o12 .double 2 (fun _ => (.double (0 : UInt64)))) (P29 : Exa Z h0 o14 "[I") (P30 : Fa Z h0 o14 .int 2 (fun _ => (.int (0 : Int32)))) (P31 : Exa Z h0 o11 "[I") (P32 : Fa Z h0 o11 .int 2 (fun _ => (.int (0 : Int32)))) (P33 : FaA Z h0 o3 .int "[I" 2 (up (up (fun _ => .null) 0 (.ref o10)) 1 (.ref o11))) (P34 : Exa Z h0 o13 "[D") (P35 : Fa Z h0 o13 .double 2 (fun _ => (.double (0 : UInt64)))) (P36 : FaA Z h0 o4 .double "[D" 2 (up (up (fun _ => .null) 0 (.ref o12)) 1 (.ref o13))) (P37 : Exa Z h0 o15 "[I") (P38 : Fa Z h0 o15 .int 2 (fun _ => (.int (0 : Int32)))) (P39 : FaA Z h0 o6 .int "[I" 2 (up (up (fun _ => .null) 0 (.ref o14)) 1 (.ref o15))) (P40 : Fa Z h0 o1 .double 2 (up (fun _ => (.double (0 : UInt64))) 0 (.double z2))) (P41 : Fa Z h0 o2 .double 2 (up (fun _ => (.double (0 : UInt64))) 0 (.double z3))) (N_o0_o1 : o0 ≠ o1) (N_o0_o2 : o0 ≠ o2) (N_o0_o3 : o0 ≠ o3) (N_o0_o4 : o0 ≠ o4) (N_o0_o5 : o0 ≠ o5) (N_o0_o6 : o0 ≠ o6) (N_o0_o7 : o0 ≠ o7) (N_o0_o8 : o0 ≠ o8) (N_o0_o9 : o0 ≠ o9) (N_o0_o10 : o0 ≠ o10) (N_o0_o11 : o0 ≠ o11) (N_o0_o12 : o0 ≠ o12) (N_o0_o13 : o0 ≠ o13) (N_o0_o14 : o0 ≠ o14) (N_o0_o15 : o0 ≠ o15) (N_o1_o2 : o1 ≠ o2) (N_o1_o3 : o1 ≠ o3) (N_o1_o4 : o1 ≠ o4) (N_o1_o5 : o1 ≠ o5) (N_o1_o6 : o1 ≠ o6) (N_o1_o7 : o1 ≠ o7) (N_o1_o8 : o1 ≠ o8) (N_o1_o9 : o1 ≠ o9) (N_o1_o10 : o1 ≠ o10) (N_o1_o11 : o1 ≠ o11) (N_o1_o12 : o1 ≠ o12) (N_o1_o13 : o1 ≠ o13) (N_o1_o14 : o1 ≠ o14) (N_o1_o15 : o1 ≠ o15) (N_o2_o3 : o2 ≠ o3) (N_o2_o4 : o2 ≠ o4) (N_o2_o5 : o2 ≠ o5) (N_o2_o6 : o2 ≠ o6) (N_o2_o7 : o2 ≠ o7) (N_o2_o8 : o2 ≠ o8) (N_o2_o9 : o2 ≠ o9) (N_o2_o10 : o2 ≠ o10) (N_o2_o11 : o2 ≠ o11) (N_o2_o12 : o2 ≠ o12) (N_o2_o13 : o2 ≠ o13) (N_o2_o14 : o2 ≠ o14) (N_o2_o15 : o2 ≠ o15) (N_o3_o4 : o3 ≠ o4) (N_o3_o5 : o3 ≠ o5) (N_o3_o6 : o3 ≠ o6) (N_o3_o7 : o3 ≠ o7) (N_o3_o8 : o3 ≠ o8) (N_o3_o9 : o3 ≠ o9) (N_o3_o10 : o3 ≠ o10) (N_o3_o11 : o3 ≠ o11) (N_o3_o12 : o3 ≠ o12) (N_o3_o13 : o3 ≠ o13) (N_o3_o14 : o3 ≠ o14) (N_o3_o15 : o3 ≠ o15) (N_o4_o5 : o4 ≠ o5) (N_o4_o6 : o4 ≠ o6) (N_o4_o7 : o4 ≠ o7) (N_o4_o8 : o4 ≠ o8) (N_o4_o9 : o4 ≠ o9) (N_o4_o10 : o4 ≠ o10) (N_o4_o11 : o4 ≠ o11) (N_o4_o12 : o4 ≠ o12) (N_o4_o13 : o4 ≠ o13) (N_o4_o14 : o4 ≠ o14) (N_o4_o15 : o4 ≠ o15) (N_o5_o6 : o5 ≠ o6) (N_o5_o7 : o5 ≠ o7) (N_o5_o8 : o5 ≠ o8) (N_o5_o9 : o5 ≠ o9) (N_o5_o10 : o5 ≠ o10) (N_o5_o11 : o5 ≠ o11) (N_o5_o12 : o5 ≠ o12) (N_o5_o13 : o5 ≠ o13) (N_o5_o14 : o5 ≠ o14) (N_o5_o15 : o5 ≠ o15) (N_o6_o7 : o6 ≠ o7) (N_o6_o8 : o6 ≠ o8) (N_o6_o9 : o6 ≠ o9) (N_o6_o10 : o6 ≠ o10) (N_o6_o11 : o6 ≠ o11) (N_o6_o12 : o6 ≠ o12) (N_o6_o13 : o6 ≠ o13) (N_o6_o14 : o6 ≠ o14) (N_o6_o15 : o6 ≠ o15) (N_o7_o8 : o7 ≠ o8) (N_o7_o9 : o7 ≠ o9) (N_o7_o10 : o7 ≠ o10) (N_o7_o11 : o7 ≠ o11) (N_o7_o12 : o7 ≠ o12) (N_o7_o13 : o7 ≠ o13) (N_o7_o14 : o7 ≠ o14) (N_o7_o15 : o7 ≠ o15) (N_o8_o9 : o8 ≠ o9) (N_o8_o10 : o8 ≠ o10) (N_o8_o11 : o8 ≠ o11) (N_o8_o12 : o8 ≠ o12) (N_o8_o13 : o8 ≠ o13) (N_o8_o14 : o8 ≠ o14) (N_o8_o15 : o8 ≠ o15) (N_o9_o10 : o9 ≠ o10) (N_o9_o11 : o9 ≠ o11) (N_o9_o12 : o9 ≠ o12) (N_o9_o13 : o9 ≠ o13) (N_o9_o14 : o9 ≠ o14) (N_o9_o15 : o9 ≠ o15) (N_o10_o11 : o10 ≠ o11) (N_o10_o12 : o10 ≠ o12) (N_o10_o13 : o10 ≠ o13) (N_o10_o14 : o10 ≠ o14) (N_o10_o15 : o10 ≠ o15) (N_o11_o12 : o11 ≠ o12) (N_o11_o13 : o11 ≠ o13) (N_o11_o14 : o11 ≠ o14) (N_o11_o15 : o11 ≠ o15) (N_o12_o13 : o12 ≠ o13) (N_o12_o14 : o12 ≠ o14) (N_o12_o15 : o12 ≠ o15) (N_o13_o14 : o13 ≠ o14) (N_o13_o15 : o13 ≠ o15) (N_o14_o15 : o14 ≠ o15) (G_o0 : n0 ≤ o0) (G_o1 : n0 ≤ o1) (G_o2 : n0 ≤ o2) (G_o3 : n0 ≤ o3) (G_o4 : n0 ≤ o4) (G_o5 : n0 ≤ o5) (G_o6 : n0 ≤ o6) (G_o7 : n0 ≤ o7) (G_o8 : n0 ≤ o8) (G_o9 : n0 ≤ o9) (G_o10 : n0 ≤ o10) (G_o11 : n0 ≤ o11) (G_o12 : n0 ≤ o12) (G_o13 : n0 ≤ o13) (G_o14 : n0 ≤ o14) (G_o15 : n0 ≤ o15) (nn_0 : Jvm.Free.Fl.NoNaN64 (FP.dadd (0 : UInt64) z0)) (nn_1 : Jvm.Free.Fl.NoNaN64 (FP.dmul z0 z1)) (nn_2 : Jvm.Free.Fl.NoNaN64 (FP.dadd (0 : UInt64) (FP.dmul z0 z1))) :
    Met false l Z n0 (⟨"com/example/torino/torino/AbsorbingChain", "addExit", "(IDD)V"⟩ : MethodName) prog_1_method_3_code 6 none ({ frames := 0, cells := 0, slots := 0, locals := 0 } : Room) #[(.ref o0), (.int (1 : Int32)), (.double z0), (.double z1)] h0 (fun v h => v = none ∧ Keep h0 h [o1, o2] ∧ Fa Z h o1 .double 2 (up (up (fun _ => (.double (0 : UInt64))) 0 (.double z2)) 1 (.double (FP.dadd (0 : UInt64) z0))) ∧ Fa Z h o2 .double 2 (up (up (fun _ => (.double (0 : UInt64))) 0 (.double z3)) 1 (.double (FP.dadd (0 : UInt64) (FP.dmul z0 z1))))) := by
  refine Met.of (plainFor_of_name pn_0) #[.val (.ref o0), .val (.int (1 : Int32)), .val (.double z0), .second, .val (.double z1), .second] (fun m => by first | (simp [entryFrame, mkF, argsToLocals, Value.category]; done) | rfl) ?_
  intro p e s m below meth c C
  refine Wk.st (g' := (mkF m 1 #[.val (.ref o0), .val (.int (1 : Int32)), .val (.double z0), .second, .val (.double z1), .second] [(.ref o0)])) (fun X t q => XS.aloadN X.here C.hx rfl (hb C.hby d3_0) rfl rfl q) ?_
  refine Wk.getF C (hw _ (List.mem_of_getElem? (i := 14) rfl)) Via.refl P4 d3_1 ?_
  show Wk _ p l e _ s m _ below meth c n0 _ h0 0 0 (mkF m 4 #[.val (.ref o0), .val (.int (1 : Int32)), .val (.double z0), .second, .val (.double z1), .second] [(.ref o1)])
  refine Wk.st (g' := (mkF m 5 #[.val (.ref o0), .val (.int (1 : Int32)), .val (.double z0), .second, .val (.double z1), .second] [(.int (1 : Int32)), (.ref o1)])) (fun X t q => XS.iloadN X.here C.hx rfl (hb C.hby d3_4) rfl q) ?_
  refine Wk.st (g' := (mkF m 6 #[.val (.ref o0), .val (.int (1 : Int32)), .val (.double z0), .second, .val (.double z1), .second] [(.int (1 : Int32)), (.ref o1), (.int (1 : Int32)), (.ref o1)])) (fun X t q => XT.dup2 X.here C.hx rfl (hb C.hby d3_5) rfl rfl rfl q) ?_
  refine Wk.fLdD C P40 (i := 1) (by decide) (by decide) (by decide) (v := (.double (0 : UInt64))) (by simp [up]) d3_6 ?_
  show Wk _ p l e _ s m _ below meth c n0 _ h0 0 0 (mkF m 7 #[.val (.ref o0), .val (.int (1 : Int32)), .val (.double z0), .second, .val (.double z1), .second] [(.double (0 : UInt64)), (.int (1 : Int32)), (.ref o1)])
  refine Wk.st (g' := (mkF m 8 #[.val (.ref o0), .val (.int (1 : Int32)), .val (.double z0), .second, .val (.double z1), .second] [(.double z0), (.double (0 : UInt64)), (.int (1 : Int32)), (.ref o1)])) (fun X t q => XS.dloadN X.here C.hx rfl (hb C.hby d3_7) rfl q) ?_
  refine Wk.st (g' := (mkF m 9 #[.val (.ref o0), .val (.int (1 : Int32)), .val (.double z0), .second, .val (.double z1), .second] [(.double (FP.dadd (0 : UInt64) z0)), (.int (1 : Int32)), (.ref o1)])) (fun X t q => XS.daddS X.here C.hx rfl (hb C.hby d3_8) rfl nn_0 rfl q) ?_
  refine Wk.fStD C P40 (i := 1) (by decide) (by decide) (by decide) G_o1 d3_9 ?_
  intro h1 W2 F3
  have F4 : Exa Z h1 o0 "com/example/torino/torino/AbsorbingChain" := P0.wr W2
  have F5 : Fld Z h1 o0 "com/example/torino/torino/AbsorbingChain" "markedRow" "I" (.int (-1 : Int32)) := P1.other W2 (Or.inl N_o0_o1)
  have F6 : Fld Z h1 o0 "com/example/torino/torino/AbsorbingChain" "size" "I" (.int (2 : Int32)) := P2.other W2 (Or.inl N_o0_o1)
  have F7 : Exa Z h1 o1 "[D" := P3.wr W2
  have F8 : Fld Z h1 o0 "com/example/torino/torino/AbsorbingChain" "exitProbabilities" "[D" (.ref o1) := P4.other W2 (Or.inl N_o0_o1)
  have F9 : Exa Z h1 o2 "[D" := P5.wr W2
  have F10 : Fld Z h1 o0 "com/example/torino/torino/AbsorbingChain" "exitValues" "[D" (.ref o2) := P6.other W2 (Or.inl N_o0_o1)
  have F11 : Exa Z h1 o3 "[[I" := P7.wr W2
  have F12 : Fld Z h1 o0 "com/example/torino/torino/AbsorbingChain" "nexts" "[[I" (.ref o3) := P8.other W2 (Or.inl N_o0_o1)
  have F13 : Exa Z h1 o4 "[[D" := P9.wr W2
  have F14 : Fld Z h1 o0 "com/example/torino/torino/AbsorbingChain" "probabilities" "[[D" (.ref o4) := P10.other W2 (Or.inl N_o0_o1)
  have F15 : Exa Z h1 o5 "[I" := P11.wr W2
  have F16 : Fa Z h1 o5 .int 2 (fun _ => (.int (0 : Int32))) := P12.other W2 (Ne.symm N_o1_o5)
  have F17 : Fld Z h1 o0 "com/example/torino/torino/AbsorbingChain" "lengths" "[I" (.ref o5) := P13.other W2 (Or.inl N_o0_o1)
  have F18 : Exa Z h1 o6 "[[I" := P14.wr W2
  have F19 : Fld Z h1 o0 "com/example/torino/torino/AbsorbingChain" "predecessors" "[[I" (.ref o6) := P15.other W2 (Or.inl N_o0_o1)
  have F20 : Exa Z h1 o7 "[I" := P16.wr W2
  have F21 : Fa Z h1 o7 .int 2 (fun _ => (.int (0 : Int32))) := P17.other W2 (Ne.symm N_o1_o7)
  have F22 : Fld Z h1 o0 "com/example/torino/torino/AbsorbingChain" "predecessorCounts" "[I" (.ref o7) := P18.other W2 (Or.inl N_o0_o1)
  have F23 : Exa Z h1 o8 "[I" := P19.wr W2
  have F24 : Fa Z h1 o8 .int 2 (fun _ => (.int (0 : Int32))) := P20.other W2 (Ne.symm N_o1_o8)
  have F25 : Fld Z h1 o0 "com/example/torino/torino/AbsorbingChain" "entryMarks" "[I" (.ref o8) := P21.other W2 (Or.inl N_o0_o1)
  have F26 : Exa Z h1 o9 "[I" := P22.wr W2
  have F27 : Fa Z h1 o9 .int 2 (fun _ => (.int (0 : Int32))) := P23.other W2 (Ne.symm N_o1_o9)
  have F28 : Fld Z h1 o0 "com/example/torino/torino/AbsorbingChain" "entries" "[I" (.ref o9) := P24.other W2 (Or.inl N_o0_o1)
  have F29 : Exa Z h1 o10 "[I" := P25.wr W2
  have F30 : Fa Z h1 o10 .int 2 (fun _ => (.int (0 : Int32))) := P26.other W2 (Ne.symm N_o1_o10)
  have F31 : Exa Z h1 o12 "[D" := P27.wr W2
  have F32 : Fa Z h1 o12 .double 2 (fun _ => (.double (0 : UInt64))) := P28.other W2 (Ne.symm N_o1_o12)
  have F33 : Exa Z h1 o14 "[I" := P29.wr W2
  have F34 : Fa Z h1 o14 .int 2 (fun _ => (.int (0 : Int32))) := P30.other W2 (Ne.symm N_o1_o14)
  have F35 : Exa Z h1 o11 "[I" := P31.wr W2
  have F36 : Fa Z h1 o11 .int 2 (fun _ => (.int (0 : Int32))) := P32.other W2 (Ne.symm N_o1_o11)
  have F37 : FaA Z h1 o3 .int "[I" 2 (up (up (fun _ => .null) 0 (.ref o10)) 1 (.ref o11)) := P33.other W2 (Ne.symm N_o1_o3)
  have F38 : Exa Z h1 o13 "[D" := P34.wr W2
  have F39 : Fa Z h1 o13 .double 2 (fun _ => (.double (0 : UInt64))) := P35.other W2 (Ne.symm N_o1_o13)
  have F40 : FaA Z h1 o4 .double "[D" 2 (up (up (fun _ => .null) 0 (.ref o12)) 1 (.ref o13)) := P36.other W2 (Ne.symm N_o1_o4)
  have F41 : Exa Z h1 o15 "[I" := P37.wr W2
  have F42 : Fa Z h1 o15 .int 2 (fun _ => (.int (0 : Int32))) := P38.other W2 (Ne.symm N_o1_o15)
  have F43 : FaA Z h1 o6 .int "[I" 2 (up (up (fun _ => .null) 0 (.ref o14)) 1 (.ref o15)) := P39.other W2 (Ne.symm N_o1_o6)
  have F44 : Fa Z h1 o2 .double 2 (up (fun _ => (.double (0 : UInt64))) 0 (.double z3)) := P41.other W2 (Ne.symm N_o1_o2)
  have sz45 : n0 ≤ h1.size := Nat.le_trans hsz (Nat.le_of_eq W2.size.symm)
  have sy46 : h0.size ≤ h1.size := Nat.le_trans (Nat.le_refl h0.size) (Nat.le_of_eq W2.size.symm)
  have K47 := (Keep.refl h0 [o1, o2]).wr W2 (Or.inl (by simp))
  show Wk _ p l e _ s m _ below meth c n0 _ h1 0 0 (mkF m 10 #[.val (.ref o0), .val (.int (1 : Int32)), .val (.double z0), .second, .val (.double z1), .second] [])
  refine Wk.st (g' := (mkF m 11 #[.val (.ref o0), .val (.int (1 : Int32)), .val (.double z0), .second, .val (.double z1), .second] [(.ref o0)])) (fun X t q => XS.aloadN X.here C.hx rfl (hb C.hby d3_10) rfl rfl q) ?_
  refine Wk.getF C (hw _ (List.mem_of_getElem? (i := 16) rfl)) Via.refl F10 d3_11 ?_
  show Wk _ p l e _ s m _ below meth c n0 _ h1 0 0 (mkF m 14 #[.val (.ref o0), .val (.int (1 : Int32)), .val (.double z0), .second, .val (.double z1), .second] [(.ref o2)])
  refine Wk.st (g' := (mkF m 15 #[.val (.ref o0), .val (.int (1 : Int32)), .val (.double z0), .second, .val (.double z1), .second] [(.int (1 : Int32)), (.ref o2)])) (fun X t q => XS.iloadN X.here C.hx rfl (hb C.hby d3_14) rfl q) ?_
  refine Wk.st (g' := (mkF m 16 #[.val (.ref o0), .val (.int (1 : Int32)), .val (.double z0), .second, .val (.double z1), .second] [(.int (1 : Int32)), (.ref o2), (.int (1 : Int32)), (.ref o2)])) (fun X t q => XT.dup2 X.here C.hx rfl (hb C.hby d3_15) rfl rfl rfl q) ?_
  refine Wk.fLdD C F44 (i := 1) (by decide) (by decide) (by decide) (v := (.double (0 : UInt64))) (by simp [up]) d3_16 ?_
  show Wk _ p l e _ s m _ below meth c n0 _ h1 0 0 (mkF m 17 #[.val (.ref o0), .val (.int (1 : Int32)), .val (.double z0), .second, .val (.double z1), .second] [(.double (0 : UInt64)), (.int (1 : Int32)), (.ref o2)])
  refine Wk.st (g' := (mkF m 18 #[.val (.ref o0), .val (.int (1 : Int32)), .val (.double z0), .second, .val (.double z1), .second] [(.double z0), (.double (0 : UInt64)), (.int (1 : Int32)), (.ref o2)])) (fun X t q => XS.dloadN X.here C.hx rfl (hb C.hby d3_17) rfl q) ?_
  refine Wk.st (g' := (mkF m 20 #[.val (.ref o0), .val (.int (1 : Int32)), .val (.double z0), .second, .val (.double z1), .second] [(.double z1), (.double z0), (.double (0 : UInt64)), (.int (1 : Int32)), (.ref o2)])) (fun X t q => XS.dload X.here C.hx rfl (hb C.hby d3_18) rfl q) ?_
  refine Wk.st (g' := (mkF m 21 #[.val (.ref o0), .val (.int (1 : Int32)), .val (.double z0), .second, .val (.double z1), .second] [(.double (FP.dmul z0 z1)), (.double (0 : UInt64)), (.int (1 : Int32)), (.ref o2)])) (fun X t q => XS.dmulS X.here C.hx rfl (hb C.hby d3_20) rfl nn_1 rfl q) ?_
  refine Wk.st (g' := (mkF m 22 #[.val (.ref o0), .val (.int (1 : Int32)), .val (.double z0), .second, .val (.double z1), .second] [(.double (FP.dadd (0 : UInt64) (FP.dmul z0 z1))), (.int (1 : Int32)), (.ref o2)])) (fun X t q => XS.daddS X.here C.hx rfl (hb C.hby d3_21) rfl nn_2 rfl q) ?_
  refine Wk.fStD C F44 (i := 1) (by decide) (by decide) (by decide) G_o2 d3_22 ?_
  intro h48 W49 F50
  have F51 : Exa Z h48 o0 "com/example/torino/torino/AbsorbingChain" := F4.wr W49
  have F52 : Fld Z h48 o0 "com/example/torino/torino/AbsorbingChain" "markedRow" "I" (.int (-1 : Int32)) := F5.other W49 (Or.inl N_o0_o2)
  have F53 : Fld Z h48 o0 "com/example/torino/torino/AbsorbingChain" "size" "I" (.int (2 : Int32)) := F6.other W49 (Or.inl N_o0_o2)
  have F54 : Exa Z h48 o1 "[D" := F7.wr W49
  have F55 : Fld Z h48 o0 "com/example/torino/torino/AbsorbingChain" "exitProbabilities" "[D" (.ref o1) := F8.other W49 (Or.inl N_o0_o2)
  have F56 : Exa Z h48 o2 "[D" := F9.wr W49
  have F57 : Fld Z h48 o0 "com/example/torino/torino/AbsorbingChain" "exitValues" "[D" (.ref o2) := F10.other W49 (Or.inl N_o0_o2)
  have F58 : Exa Z h48 o3 "[[I" := F11.wr W49
  have F59 : Fld Z h48 o0 "com/example/torino/torino/AbsorbingChain" "nexts" "[[I" (.ref o3) := F12.other W49 (Or.inl N_o0_o2)
  have F60 : Exa Z h48 o4 "[[D" := F13.wr W49
  have F61 : Fld Z h48 o0 "com/example/torino/torino/AbsorbingChain" "probabilities" "[[D" (.ref o4) := F14.other W49 (Or.inl N_o0_o2)
  have F62 : Exa Z h48 o5 "[I" := F15.wr W49
  have F63 : Fa Z h48 o5 .int 2 (fun _ => (.int (0 : Int32))) := F16.other W49 (Ne.symm N_o2_o5)
  have F64 : Fld Z h48 o0 "com/example/torino/torino/AbsorbingChain" "lengths" "[I" (.ref o5) := F17.other W49 (Or.inl N_o0_o2)
  have F65 : Exa Z h48 o6 "[[I" := F18.wr W49
  have F66 : Fld Z h48 o0 "com/example/torino/torino/AbsorbingChain" "predecessors" "[[I" (.ref o6) := F19.other W49 (Or.inl N_o0_o2)
  have F67 : Exa Z h48 o7 "[I" := F20.wr W49
  have F68 : Fa Z h48 o7 .int 2 (fun _ => (.int (0 : Int32))) := F21.other W49 (Ne.symm N_o2_o7)
  have F69 : Fld Z h48 o0 "com/example/torino/torino/AbsorbingChain" "predecessorCounts" "[I" (.ref o7) := F22.other W49 (Or.inl N_o0_o2)
  have F70 : Exa Z h48 o8 "[I" := F23.wr W49
  have F71 : Fa Z h48 o8 .int 2 (fun _ => (.int (0 : Int32))) := F24.other W49 (Ne.symm N_o2_o8)
  have F72 : Fld Z h48 o0 "com/example/torino/torino/AbsorbingChain" "entryMarks" "[I" (.ref o8) := F25.other W49 (Or.inl N_o0_o2)
  have F73 : Exa Z h48 o9 "[I" := F26.wr W49
  have F74 : Fa Z h48 o9 .int 2 (fun _ => (.int (0 : Int32))) := F27.other W49 (Ne.symm N_o2_o9)
  have F75 : Fld Z h48 o0 "com/example/torino/torino/AbsorbingChain" "entries" "[I" (.ref o9) := F28.other W49 (Or.inl N_o0_o2)
  have F76 : Exa Z h48 o10 "[I" := F29.wr W49
  have F77 : Fa Z h48 o10 .int 2 (fun _ => (.int (0 : Int32))) := F30.other W49 (Ne.symm N_o2_o10)
  have F78 : Exa Z h48 o12 "[D" := F31.wr W49
  have F79 : Fa Z h48 o12 .double 2 (fun _ => (.double (0 : UInt64))) := F32.other W49 (Ne.symm N_o2_o12)
  have F80 : Exa Z h48 o14 "[I" := F33.wr W49
  have F81 : Fa Z h48 o14 .int 2 (fun _ => (.int (0 : Int32))) := F34.other W49 (Ne.symm N_o2_o14)
  have F82 : Exa Z h48 o11 "[I" := F35.wr W49
  have F83 : Fa Z h48 o11 .int 2 (fun _ => (.int (0 : Int32))) := F36.other W49 (Ne.symm N_o2_o11)
  have F84 : FaA Z h48 o3 .int "[I" 2 (up (up (fun _ => .null) 0 (.ref o10)) 1 (.ref o11)) := F37.other W49 (Ne.symm N_o2_o3)
  have F85 : Exa Z h48 o13 "[D" := F38.wr W49
  have F86 : Fa Z h48 o13 .double 2 (fun _ => (.double (0 : UInt64))) := F39.other W49 (Ne.symm N_o2_o13)
  have F87 : FaA Z h48 o4 .double "[D" 2 (up (up (fun _ => .null) 0 (.ref o12)) 1 (.ref o13)) := F40.other W49 (Ne.symm N_o2_o4)
  have F88 : Exa Z h48 o15 "[I" := F41.wr W49
  have F89 : Fa Z h48 o15 .int 2 (fun _ => (.int (0 : Int32))) := F42.other W49 (Ne.symm N_o2_o15)
  have F90 : FaA Z h48 o6 .int "[I" 2 (up (up (fun _ => .null) 0 (.ref o14)) 1 (.ref o15)) := F43.other W49 (Ne.symm N_o2_o6)
  have F91 : Fa Z h48 o1 .double 2 (up (up (fun _ => (.double (0 : UInt64))) 0 (.double z2)) 1 (.double (FP.dadd (0 : UInt64) z0))) := F3.other W49 N_o1_o2
  have sz92 : n0 ≤ h48.size := Nat.le_trans sz45 (Nat.le_of_eq W49.size.symm)
  have sy93 : h0.size ≤ h48.size := Nat.le_trans sy46 (Nat.le_of_eq W49.size.symm)
  have K94 := K47.wr W49 (Or.inl (by simp))
  show Wk _ p l e _ s m _ below meth c n0 _ h48 0 0 (mkF m 23 #[.val (.ref o0), .val (.int (1 : Int32)), .val (.double z0), .second, .val (.double z1), .second] [])
  exact Wk.retN0 C rfl d3_23 (by decide) (by decide) ⟨rfl, K94, F91, F50⟩
set_option maxRecDepth 65536 in
set_option maxHeartbeats 40000000 in
theorem own_3_3 (l : Launch) (Z : State) (a0 : Array Value) (hw : ∀ d ∈ tables_1, d.before a0 Z = true) (n0 : Nat) (h0 : Heap) (hsz : n0 ≤ h0.size) (o0 : Addr) (o1 : Addr) (o2 : Addr) (o3 : Addr) (o4 : Addr) (o5 : Addr) (o6 : Addr) (o7 : Addr) (o8 : Addr) (o9 : Addr) (o10 : Addr) (o11 : Addr) (o12 : Addr) (o13 : Addr) (o14 : Addr) (o15 : Addr) (z0 : UInt64) (z1 : UInt64) (z2 : UInt64) (z3 : UInt64) (z4 : UInt64) (z5 : UInt64) (P0 : Exa Z h0 o0 "com/example/torino/torino/AbsorbingChain") (P1 : Fld Z h0 o0 "com/example/torino/torino/AbsorbingChain" "markedRow" "I" (.int (-1 : Int32))) (P2 : Fld Z h0 o0 "com/example/torino/torino/AbsorbingChain" "size" "I" (.int (2 : Int32))) (P3 : Exa Z h0 o1 "[D") (P4 : Fld Z h0 o0 "com/example/torino/torino/AbsorbingChain" "exitProbabilities" "[D" (.ref o1)) (P5 : Exa Z h0 o2 "[D") (P6 : Fld Z h0 o0 "com/example/torino/torino/AbsorbingChain" "exitValues" "[D" (.ref o2)) (P7 : Exa Z h0 o3 "[[I") (P8 : Fld Z h0 o0 "com/example/torino/torino/AbsorbingChain" "nexts" "[[I" (.ref o3)) (P9 : Exa Z h0 o4 "[[D") (P10 : Fld Z h0 o0 "com/example/torino/torino/AbsorbingChain" "probabilities" "[[D" (.ref o4)) (P11 : Exa Z h0 o5 "[I") (P12 : Fa Z h0 o5 .int 2 (fun _ => (.int (0 : Int32)))) (P13 : Fld Z h0 o0 "com/example/torino/torino/AbsorbingChain" "lengths" "[I" (.ref o5)) (P14 : Exa Z h0 o6 "[[I") (P15 : Fld Z h0 o0 "com/example/torino/torino/AbsorbingChain" "predecessors" "[[I" (.ref o6)) (P16 : Exa Z h0 o7 "[I") (P17 : Fa Z h0 o7 .int 2 (fun _ => (.int (0 : Int32)))) (P18 : Fld Z h0 o0 "com/example/torino/torino/AbsorbingChain" "predecessorCounts" "[I" (.ref o7)) (P19 : Exa Z h0 o8 "[I") (P20 : Fa Z h0 o8 .int 2 (fun _ => (.int (0 : Int32)))) (P21 : Fld Z h0 o0 "com/example/torino/torino/AbsorbingChain" "entryMarks" "[I" (.ref o8)) (P22 : Exa Z h0 o9 "[I") (P23 : Fa Z h0 o9 .int 2 (fun _ => (.int (0 : Int32)))) (P24 : Fld Z h0 o0 "com/example/torino/torino/AbsorbingChain" "entries" "[I" (.ref o9)) (P25 : Exa Z h0 o10 "[I") (P26 : Fa Z h0 o10 .int 2 (fun _ => (.int (0 : Int32)))) (P27 : Exa Z h0 o12 "[D") (P28 : Fa Z h0 o12 .double 2 (fun _ => (.double (0 : UInt64)))) (P29 : Exa Z h0 o14 "[I") (P30 : Fa Z h0 o14 .int 2 (fun _ => (.int (0 : Int32)))) (P31 : Exa Z h0 o11 "[I") (P32 : Fa Z h0 o11 .int 2 (fun _ => (.int (0 : Int32)))) (P33 : FaA Z h0 o3 .int "[I" 2 (up (up (fun _ => .null) 0 (.ref o10)) 1 (.ref o11))) (P34 : Exa Z h0 o13 "[D") (P35 : Fa Z h0 o13 .double 2 (fun _ => (.double (0 : UInt64)))) (P36 : FaA Z h0 o4 .double "[D" 2 (up (up (fun _ => .null) 0 (.ref o12)) 1 (.ref o13))) (P37 : Exa Z h0 o15 "[I") (P38 : Fa Z h0 o15 .int 2 (fun _ => (.int (0 : Int32)))) (P39 : FaA Z h0 o6 .int "[I" 2 (up (up (fun _ => .null) 0 (.ref o14)) 1 (.ref o15))) (P40 : Fa Z h0 o1 .double 2 (up (up (fun _ => (.double (0 : UInt64))) 0 (.double z2)) 1 (.double z3))) (P41 : Fa Z h0 o2 .double 2 (up (up (fun _ => (.double (0 : UInt64))) 0 (.double z4)) 1 (.double z5))) (N_o0_o1 : o0 ≠ o1) (N_o0_o2 : o0 ≠ o2) (N_o0_o3 : o0 ≠ o3) (N_o0_o4 : o0 ≠ o4) (N_o0_o5 : o0 ≠ o5) (N_o0_o6 : o0 ≠ o6) (N_o0_o7 : o0 ≠ o7) (N_o0_o8 : o0 ≠ o8) (N_o0_o9 : o0 ≠ o9) (N_o0_o10 : o0 ≠ o10) (N_o0_o11 : o0 ≠ o11) (N_o0_o12 : o0 ≠ o12) (N_o0_o13 : o0 ≠ o13) (N_o0_o14 : o0 ≠ o14) (N_o0_o15 : o0 ≠ o15) (N_o1_o2 : o1 ≠ o2) (N_o1_o3 : o1 ≠ o3) (N_o1_o4 : o1 ≠ o4) (N_o1_o5 : o1 ≠ o5) (N_o1_o6 : o1 ≠ o6) (N_o1_o7 : o1 ≠ o7) (N_o1_o8 : o1 ≠ o8) (N_o1_o9 : o1 ≠ o9) (N_o1_o10 : o1 ≠ o10) (N_o1_o11 : o1 ≠ o11) (N_o1_o12 : o1 ≠ o12) (N_o1_o13 : o1 ≠ o13) (N_o1_o14 : o1 ≠ o14) (N_o1_o15 : o1 ≠ o15) (N_o2_o3 : o2 ≠ o3) (N_o2_o4 : o2 ≠ o4) (N_o2_o5 : o2 ≠ o5) (N_o2_o6 : o2 ≠ o6) (N_o2_o7 : o2 ≠ o7) (N_o2_o8 : o2 ≠ o8) (N_o2_o9 : o2 ≠ o9) (N_o2_o10 : o2 ≠ o10) (N_o2_o11 : o2 ≠ o11) (N_o2_o12 : o2 ≠ o12) (N_o2_o13 : o2 ≠ o13) (N_o2_o14 : o2 ≠ o14) (N_o2_o15 : o2 ≠ o15) (N_o3_o4 : o3 ≠ o4) (N_o3_o5 : o3 ≠ o5) (N_o3_o6 : o3 ≠ o6) (N_o3_o7 : o3 ≠ o7) (N_o3_o8 : o3 ≠ o8) (N_o3_o9 : o3 ≠ o9) (N_o3_o10 : o3 ≠ o10) (N_o3_o11 : o3 ≠ o11) (N_o3_o12 : o3 ≠ o12) (N_o3_o13 : o3 ≠ o13) (N_o3_o14 : o3 ≠ o14) (N_o3_o15 : o3 ≠ o15) (N_o4_o5 : o4 ≠ o5) (N_o4_o6 : o4 ≠ o6) (N_o4_o7 : o4 ≠ o7) (N_o4_o8 : o4 ≠ o8) (N_o4_o9 : o4 ≠ o9) (N_o4_o10 : o4 ≠ o10) (N_o4_o11 : o4 ≠ o11) (N_o4_o12 : o4 ≠ o12) (N_o4_o13 : o4 ≠ o13) (N_o4_o14 : o4 ≠ o14) (N_o4_o15 : o4 ≠ o15) (N_o5_o6 : o5 ≠ o6) (N_o5_o7 : o5 ≠ o7) (N_o5_o8 : o5 ≠ o8) (N_o5_o9 : o5 ≠ o9) (N_o5_o10 : o5 ≠ o10) (N_o5_o11 : o5 ≠ o11) (N_o5_o12 : o5 ≠ o12) (N_o5_o13 : o5 ≠ o13) (N_o5_o14 : o5 ≠ o14) (N_o5_o15 : o5 ≠ o15) (N_o6_o7 : o6 ≠ o7) (N_o6_o8 : o6 ≠ o8) (N_o6_o9 : o6 ≠ o9) (N_o6_o10 : o6 ≠ o10) (N_o6_o11 : o6 ≠ o11) (N_o6_o12 : o6 ≠ o12) (N_o6_o13 : o6 ≠ o13) (N_o6_o14 : o6 ≠ o14) (N_o6_o15 : o6 ≠ o15) (N_o7_o8 : o7 ≠ o8) (N_o7_o9 : o7 ≠ o9) (N_o7_o10 : o7 ≠ o10) (N_o7_o11 : o7 ≠ o11) (N_o7_o12 : o7 ≠ o12) (N_o7_o13 : o7 ≠ o13) (N_o7_o14 : o7 ≠ o14) (N_o7_o15 : o7 ≠ o15) (N_o8_o9 : o8 ≠ o9) (N_o8_o10 : o8 ≠ o10) (N_o8_o11 : o8 ≠ o11) (N_o8_o12 : o8 ≠ o12) (N_o8_o13 : o8 ≠ o13) (N_o8_o14 : o8 ≠ o14) (N_o8_o15 : o8 ≠ o15) (N_o9_o10 : o9 ≠ o10) (N_o9_o11 : o9 ≠ o11) (N_o9_o12 : o9 ≠ o12) (N_o9_o13 : o9 ≠ o13) (N_o9_o14 : o9 ≠ o14) (N_o9_o15 : o9 ≠ o15) (N_o10_o11 : o10 ≠ o11) (N_o10_o12 : o10 ≠ o12) (N_o10_o13 : o10 ≠ o13) (N_o10_o14 : o10 ≠ o14) (N_o10_o15 : o10 ≠ o15) (N_o11_o12 : o11 ≠ o12) (N_o11_o13 : o11 ≠ o13) (N_o11_o14 : o11 ≠ o14) (N_o11_o15 : o11 ≠ o15) (N_o12_o13 : o12 ≠ o13) (N_o12_o14 : o12 ≠ o14) (N_o12_o15 : o12 ≠ o15) (N_o13_o14 : o13 ≠ o14) (N_o13_o15 : o13 ≠ o15) (N_o14_o15 : o14 ≠ o15) (G_o0 : n0 ≤ o0) (G_o1 : n0 ≤ o1) (G_o2 : n0 ≤ o2) (G_o3 : n0 ≤ o3) (G_o4 : n0 ≤ o4) (G_o5 : n0 ≤ o5) (G_o6 : n0 ≤ o6) (G_o7 : n0 ≤ o7) (G_o8 : n0 ≤ o8) (G_o9 : n0 ≤ o9) (G_o10 : n0 ≤ o10) (G_o11 : n0 ≤ o11) (G_o12 : n0 ≤ o12) (G_o13 : n0 ≤ o13) (G_o14 : n0 ≤ o14) (G_o15 : n0 ≤ o15) (nn_0 : Jvm.Free.Fl.NoNaN64 (FP.dadd z2 z0)) (nn_1 : Jvm.Free.Fl.NoNaN64 (FP.dmul z0 z1)) (nn_2 : Jvm.Free.Fl.NoNaN64 (FP.dadd z4 (FP.dmul z0 z1))) :
    Met false l Z n0 (⟨"com/example/torino/torino/AbsorbingChain", "addExit", "(IDD)V"⟩ : MethodName) prog_1_method_3_code 6 none ({ frames := 0, cells := 0, slots := 0, locals := 0 } : Room) #[(.ref o0), (.int (0 : Int32)), (.double z0), (.double z1)] h0 (fun v h => v = none ∧ Keep h0 h [o1, o2] ∧ Fa Z h o1 .double 2 (up (up (fun _ => (.double (0 : UInt64))) 0 (.double (FP.dadd z2 z0))) 1 (.double z3)) ∧ Fa Z h o2 .double 2 (up (up (fun _ => (.double (0 : UInt64))) 0 (.double (FP.dadd z4 (FP.dmul z0 z1)))) 1 (.double z5))) := by
  refine Met.of (plainFor_of_name pn_0) #[.val (.ref o0), .val (.int (0 : Int32)), .val (.double z0), .second, .val (.double z1), .second] (fun m => by first | (simp [entryFrame, mkF, argsToLocals, Value.category]; done) | rfl) ?_
  intro p e s m below meth c C
  refine Wk.st (g' := (mkF m 1 #[.val (.ref o0), .val (.int (0 : Int32)), .val (.double z0), .second, .val (.double z1), .second] [(.ref o0)])) (fun X t q => XS.aloadN X.here C.hx rfl (hb C.hby d3_0) rfl rfl q) ?_
  refine Wk.getF C (hw _ (List.mem_of_getElem? (i := 14) rfl)) Via.refl P4 d3_1 ?_
  show Wk _ p l e _ s m _ below meth c n0 _ h0 0 0 (mkF m 4 #[.val (.ref o0), .val (.int (0 : Int32)), .val (.double z0), .second, .val (.double z1), .second] [(.ref o1)])
  refine Wk.st (g' := (mkF m 5 #[.val (.ref o0), .val (.int (0 : Int32)), .val (.double z0), .second, .val (.double z1), .second] [(.int (0 : Int32)), (.ref o1)])) (fun X t q => XS.iloadN X.here C.hx rfl (hb C.hby d3_4) rfl q) ?_
  refine Wk.st (g' := (mkF m 6 #[.val (.ref o0), .val (.int (0 : Int32)), .val (.double z0), .second, .val (.double z1), .second] [(.int (0 : Int32)), (.ref o1), (.int (0 : Int32)), (.ref o1)])) (fun X t q => XT.dup2 X.here C.hx rfl (hb C.hby d3_5) rfl rfl rfl q) ?_
  refine Wk.fLdD C P40 (i := 0) (by decide) (by decide) (by decide) (v := (.double z2)) (by simp [up]) d3_6 ?_
  show Wk _ p l e _ s m _ below meth c n0 _ h0 0 0 (mkF m 7 #[.val (.ref o0), .val (.int (0 : Int32)), .val (.double z0), .second, .val (.double z1), .second] [(.double z2), (.int (0 : Int32)), (.ref o1)])
  refine Wk.st (g' := (mkF m 8 #[.val (.ref o0), .val (.int (0 : Int32)), .val (.double z0), .second, .val (.double z1), .second] [(.double z0), (.double z2), (.int (0 : Int32)), (.ref o1)])) (fun X t q => XS.dloadN X.here C.hx rfl (hb C.hby d3_7) rfl q) ?_
  refine Wk.st (g' := (mkF m 9 #[.val (.ref o0), .val (.int (0 : Int32)), .val (.double z0), .second, .val (.double z1), .second] [(.double (FP.dadd z2 z0)), (.int (0 : Int32)), (.ref o1)])) (fun X t q => XS.daddS X.here C.hx rfl (hb C.hby d3_8) rfl nn_0 rfl q) ?_
  refine Wk.fStD C P40 (i := 0) (by decide) (by decide) (by decide) G_o1 d3_9 ?_
  intro h1 W2 F3
  have F4 : Exa Z h1 o0 "com/example/torino/torino/AbsorbingChain" := P0.wr W2
  have F5 : Fld Z h1 o0 "com/example/torino/torino/AbsorbingChain" "markedRow" "I" (.int (-1 : Int32)) := P1.other W2 (Or.inl N_o0_o1)
  have F6 : Fld Z h1 o0 "com/example/torino/torino/AbsorbingChain" "size" "I" (.int (2 : Int32)) := P2.other W2 (Or.inl N_o0_o1)
  have F7 : Exa Z h1 o1 "[D" := P3.wr W2
  have F8 : Fld Z h1 o0 "com/example/torino/torino/AbsorbingChain" "exitProbabilities" "[D" (.ref o1) := P4.other W2 (Or.inl N_o0_o1)
  have F9 : Exa Z h1 o2 "[D" := P5.wr W2
  have F10 : Fld Z h1 o0 "com/example/torino/torino/AbsorbingChain" "exitValues" "[D" (.ref o2) := P6.other W2 (Or.inl N_o0_o1)
  have F11 : Exa Z h1 o3 "[[I" := P7.wr W2
  have F12 : Fld Z h1 o0 "com/example/torino/torino/AbsorbingChain" "nexts" "[[I" (.ref o3) := P8.other W2 (Or.inl N_o0_o1)
  have F13 : Exa Z h1 o4 "[[D" := P9.wr W2
  have F14 : Fld Z h1 o0 "com/example/torino/torino/AbsorbingChain" "probabilities" "[[D" (.ref o4) := P10.other W2 (Or.inl N_o0_o1)
  have F15 : Exa Z h1 o5 "[I" := P11.wr W2
  have F16 : Fa Z h1 o5 .int 2 (fun _ => (.int (0 : Int32))) := P12.other W2 (Ne.symm N_o1_o5)
  have F17 : Fld Z h1 o0 "com/example/torino/torino/AbsorbingChain" "lengths" "[I" (.ref o5) := P13.other W2 (Or.inl N_o0_o1)
  have F18 : Exa Z h1 o6 "[[I" := P14.wr W2
  have F19 : Fld Z h1 o0 "com/example/torino/torino/AbsorbingChain" "predecessors" "[[I" (.ref o6) := P15.other W2 (Or.inl N_o0_o1)
  have F20 : Exa Z h1 o7 "[I" := P16.wr W2
  have F21 : Fa Z h1 o7 .int 2 (fun _ => (.int (0 : Int32))) := P17.other W2 (Ne.symm N_o1_o7)
  have F22 : Fld Z h1 o0 "com/example/torino/torino/AbsorbingChain" "predecessorCounts" "[I" (.ref o7) := P18.other W2 (Or.inl N_o0_o1)
  have F23 : Exa Z h1 o8 "[I" := P19.wr W2
  have F24 : Fa Z h1 o8 .int 2 (fun _ => (.int (0 : Int32))) := P20.other W2 (Ne.symm N_o1_o8)
  have F25 : Fld Z h1 o0 "com/example/torino/torino/AbsorbingChain" "entryMarks" "[I" (.ref o8) := P21.other W2 (Or.inl N_o0_o1)
  have F26 : Exa Z h1 o9 "[I" := P22.wr W2
  have F27 : Fa Z h1 o9 .int 2 (fun _ => (.int (0 : Int32))) := P23.other W2 (Ne.symm N_o1_o9)
  have F28 : Fld Z h1 o0 "com/example/torino/torino/AbsorbingChain" "entries" "[I" (.ref o9) := P24.other W2 (Or.inl N_o0_o1)
  have F29 : Exa Z h1 o10 "[I" := P25.wr W2
  have F30 : Fa Z h1 o10 .int 2 (fun _ => (.int (0 : Int32))) := P26.other W2 (Ne.symm N_o1_o10)
  have F31 : Exa Z h1 o12 "[D" := P27.wr W2
  have F32 : Fa Z h1 o12 .double 2 (fun _ => (.double (0 : UInt64))) := P28.other W2 (Ne.symm N_o1_o12)
  have F33 : Exa Z h1 o14 "[I" := P29.wr W2
  have F34 : Fa Z h1 o14 .int 2 (fun _ => (.int (0 : Int32))) := P30.other W2 (Ne.symm N_o1_o14)
  have F35 : Exa Z h1 o11 "[I" := P31.wr W2
  have F36 : Fa Z h1 o11 .int 2 (fun _ => (.int (0 : Int32))) := P32.other W2 (Ne.symm N_o1_o11)
  have F37 : FaA Z h1 o3 .int "[I" 2 (up (up (fun _ => .null) 0 (.ref o10)) 1 (.ref o11)) := P33.other W2 (Ne.symm N_o1_o3)
  have F38 : Exa Z h1 o13 "[D" := P34.wr W2
  have F39 : Fa Z h1 o13 .double 2 (fun _ => (.double (0 : UInt64))) := P35.other W2 (Ne.symm N_o1_o13)
  have F40 : FaA Z h1 o4 .double "[D" 2 (up (up (fun _ => .null) 0 (.ref o12)) 1 (.ref o13)) := P36.other W2 (Ne.symm N_o1_o4)
  have F41 : Exa Z h1 o15 "[I" := P37.wr W2
  have F42 : Fa Z h1 o15 .int 2 (fun _ => (.int (0 : Int32))) := P38.other W2 (Ne.symm N_o1_o15)
  have F43 : FaA Z h1 o6 .int "[I" 2 (up (up (fun _ => .null) 0 (.ref o14)) 1 (.ref o15)) := P39.other W2 (Ne.symm N_o1_o6)
  have F44 : Fa Z h1 o2 .double 2 (up (up (fun _ => (.double (0 : UInt64))) 0 (.double z4)) 1 (.double z5)) := P41.other W2 (Ne.symm N_o1_o2)
  have sz45 : n0 ≤ h1.size := Nat.le_trans hsz (Nat.le_of_eq W2.size.symm)
  have sy46 : h0.size ≤ h1.size := Nat.le_trans (Nat.le_refl h0.size) (Nat.le_of_eq W2.size.symm)
  have K47 := (Keep.refl h0 [o1, o2]).wr W2 (Or.inl (by simp))
  show Wk _ p l e _ s m _ below meth c n0 _ h1 0 0 (mkF m 10 #[.val (.ref o0), .val (.int (0 : Int32)), .val (.double z0), .second, .val (.double z1), .second] [])
  refine Wk.st (g' := (mkF m 11 #[.val (.ref o0), .val (.int (0 : Int32)), .val (.double z0), .second, .val (.double z1), .second] [(.ref o0)])) (fun X t q => XS.aloadN X.here C.hx rfl (hb C.hby d3_10) rfl rfl q) ?_
  refine Wk.getF C (hw _ (List.mem_of_getElem? (i := 16) rfl)) Via.refl F10 d3_11 ?_
  show Wk _ p l e _ s m _ below meth c n0 _ h1 0 0 (mkF m 14 #[.val (.ref o0), .val (.int (0 : Int32)), .val (.double z0), .second, .val (.double z1), .second] [(.ref o2)])
  refine Wk.st (g' := (mkF m 15 #[.val (.ref o0), .val (.int (0 : Int32)), .val (.double z0), .second, .val (.double z1), .second] [(.int (0 : Int32)), (.ref o2)])) (fun X t q => XS.iloadN X.here C.hx rfl (hb C.hby d3_14) rfl q) ?_
  refine Wk.st (g' := (mkF m 16 #[.val (.ref o0), .val (.int (0 : Int32)), .val (.double z0), .second, .val (.double z1), .second] [(.int (0 : Int32)), (.ref o2), (.int (0 : Int32)), (.ref o2)])) (fun X t q => XT.dup2 X.here C.hx rfl (hb C.hby d3_15) rfl rfl rfl q) ?_
  refine Wk.fLdD C F44 (i := 0) (by decide) (by decide) (by decide) (v := (.double z4)) (by simp [up]) d3_16 ?_
  show Wk _ p l e _ s m _ below meth c n0 _ h1 0 0 (mkF m 17 #[.val (.ref o0), .val (.int (0 : Int32)), .val (.double z0), .second, .val (.double z1), .second] [(.double z4), (.int (0 : Int32)), (.ref o2)])
  refine Wk.st (g' := (mkF m 18 #[.val (.ref o0), .val (.int (0 : Int32)), .val (.double z0), .second, .val (.double z1), .second] [(.double z0), (.double z4), (.int (0 : Int32)), (.ref o2)])) (fun X t q => XS.dloadN X.here C.hx rfl (hb C.hby d3_17) rfl q) ?_
  refine Wk.st (g' := (mkF m 20 #[.val (.ref o0), .val (.int (0 : Int32)), .val (.double z0), .second, .val (.double z1), .second] [(.double z1), (.double z0), (.double z4), (.int (0 : Int32)), (.ref o2)])) (fun X t q => XS.dload X.here C.hx rfl (hb C.hby d3_18) rfl q) ?_
  refine Wk.st (g' := (mkF m 21 #[.val (.ref o0), .val (.int (0 : Int32)), .val (.double z0), .second, .val (.double z1), .second] [(.double (FP.dmul z0 z1)), (.double z4), (.int (0 : Int32)), (.ref o2)])) (fun X t q => XS.dmulS X.here C.hx rfl (hb C.hby d3_20) rfl nn_1 rfl q) ?_
  refine Wk.st (g' := (mkF m 22 #[.val (.ref o0), .val (.int (0 : Int32)), .val (.double z0), .second, .val (.double z1), .second] [(.double (FP.dadd z4 (FP.dmul z0 z1))), (.int (0 : Int32)), (.ref o2)])) (fun X t q => XS.daddS X.here C.hx rfl (hb C.hby d3_21) rfl nn_2 rfl q) ?_
  refine Wk.fStD C F44 (i := 0) (by decide) (by decide) (by decide) G_o2 d3_22 ?_
  intro h48 W49 F50
  have F51 : Exa Z h48 o0 "com/example/torino/torino/AbsorbingChain" := F4.wr W49
  have F52 : Fld Z h48 o0 "com/example/torino/torino/AbsorbingChain" "markedRow" "I" (.int (-1 : Int32)) := F5.other W49 (Or.inl N_o0_o2)
  have F53 : Fld Z h48 o0 "com/example/torino/torino/AbsorbingChain" "size" "I" (.int (2 : Int32)) := F6.other W49 (Or.inl N_o0_o2)
  have F54 : Exa Z h48 o1 "[D" := F7.wr W49
  have F55 : Fld Z h48 o0 "com/example/torino/torino/AbsorbingChain" "exitProbabilities" "[D" (.ref o1) := F8.other W49 (Or.inl N_o0_o2)
  have F56 : Exa Z h48 o2 "[D" := F9.wr W49
  have F57 : Fld Z h48 o0 "com/example/torino/torino/AbsorbingChain" "exitValues" "[D" (.ref o2) := F10.other W49 (Or.inl N_o0_o2)
  have F58 : Exa Z h48 o3 "[[I" := F11.wr W49
  have F59 : Fld Z h48 o0 "com/example/torino/torino/AbsorbingChain" "nexts" "[[I" (.ref o3) := F12.other W49 (Or.inl N_o0_o2)
  have F60 : Exa Z h48 o4 "[[D" := F13.wr W49
  have F61 : Fld Z h48 o0 "com/example/torino/torino/AbsorbingChain" "probabilities" "[[D" (.ref o4) := F14.other W49 (Or.inl N_o0_o2)
  have F62 : Exa Z h48 o5 "[I" := F15.wr W49
  have F63 : Fa Z h48 o5 .int 2 (fun _ => (.int (0 : Int32))) := F16.other W49 (Ne.symm N_o2_o5)
  have F64 : Fld Z h48 o0 "com/example/torino/torino/AbsorbingChain" "lengths" "[I" (.ref o5) := F17.other W49 (Or.inl N_o0_o2)
  have F65 : Exa Z h48 o6 "[[I" := F18.wr W49
  have F66 : Fld Z h48 o0 "com/example/torino/torino/AbsorbingChain" "predecessors" "[[I" (.ref o6) := F19.other W49 (Or.inl N_o0_o2)
  have F67 : Exa Z h48 o7 "[I" := F20.wr W49
  have F68 : Fa Z h48 o7 .int 2 (fun _ => (.int (0 : Int32))) := F21.other W49 (Ne.symm N_o2_o7)
  have F69 : Fld Z h48 o0 "com/example/torino/torino/AbsorbingChain" "predecessorCounts" "[I" (.ref o7) := F22.other W49 (Or.inl N_o0_o2)
  have F70 : Exa Z h48 o8 "[I" := F23.wr W49
  have F71 : Fa Z h48 o8 .int 2 (fun _ => (.int (0 : Int32))) := F24.other W49 (Ne.symm N_o2_o8)
  have F72 : Fld Z h48 o0 "com/example/torino/torino/AbsorbingChain" "entryMarks" "[I" (.ref o8) := F25.other W49 (Or.inl N_o0_o2)
  have F73 : Exa Z h48 o9 "[I" := F26.wr W49
  have F74 : Fa Z h48 o9 .int 2 (fun _ => (.int (0 : Int32))) := F27.other W49 (Ne.symm N_o2_o9)
  have F75 : Fld Z h48 o0 "com/example/torino/torino/AbsorbingChain" "entries" "[I" (.ref o9) := F28.other W49 (Or.inl N_o0_o2)
  have F76 : Exa Z h48 o10 "[I" := F29.wr W49
  have F77 : Fa Z h48 o10 .int 2 (fun _ => (.int (0 : Int32))) := F30.other W49 (Ne.symm N_o2_o10)
  have F78 : Exa Z h48 o12 "[D" := F31.wr W49
  have F79 : Fa Z h48 o12 .double 2 (fun _ => (.double (0 : UInt64))) := F32.other W49 (Ne.symm N_o2_o12)
  have F80 : Exa Z h48 o14 "[I" := F33.wr W49
  have F81 : Fa Z h48 o14 .int 2 (fun _ => (.int (0 : Int32))) := F34.other W49 (Ne.symm N_o2_o14)
  have F82 : Exa Z h48 o11 "[I" := F35.wr W49
  have F83 : Fa Z h48 o11 .int 2 (fun _ => (.int (0 : Int32))) := F36.other W49 (Ne.symm N_o2_o11)
  have F84 : FaA Z h48 o3 .int "[I" 2 (up (up (fun _ => .null) 0 (.ref o10)) 1 (.ref o11)) := F37.other W49 (Ne.symm N_o2_o3)
  have F85 : Exa Z h48 o13 "[D" := F38.wr W49
  have F86 : Fa Z h48 o13 .double 2 (fun _ => (.double (0 : UInt64))) := F39.other W49 (Ne.symm N_o2_o13)
  have F87 : FaA Z h48 o4 .double "[D" 2 (up (up (fun _ => .null) 0 (.ref o12)) 1 (.ref o13)) := F40.other W49 (Ne.symm N_o2_o4)
  have F88 : Exa Z h48 o15 "[I" := F41.wr W49
  have F89 : Fa Z h48 o15 .int 2 (fun _ => (.int (0 : Int32))) := F42.other W49 (Ne.symm N_o2_o15)
  have F90 : FaA Z h48 o6 .int "[I" 2 (up (up (fun _ => .null) 0 (.ref o14)) 1 (.ref o15)) := F43.other W49 (Ne.symm N_o2_o6)
  have F91 : Fa Z h48 o1 .double 2 (up (up (up (fun _ => (.double (0 : UInt64))) 0 (.double z2)) 1 (.double z3)) 0 (.double (FP.dadd z2 z0))) := F3.other W49 N_o1_o2
  have sz92 : n0 ≤ h48.size := Nat.le_trans sz45 (Nat.le_of_eq W49.size.symm)
  have sy93 : h0.size ≤ h48.size := Nat.le_trans sy46 (Nat.le_of_eq W49.size.symm)
  have K94 := K47.wr W49 (Or.inl (by simp))
  show Wk _ p l e _ s m _ below meth c n0 _ h48 0 0 (mkF m 23 #[.val (.ref o0), .val (.int (0 : Int32)), .val (.double z0), .second, .val (.double z1), .second] [])
  exact Wk.retN0 C rfl d3_23 (by decide) (by decide) ⟨rfl, K94, F91.congr (fun i hi => by simp only [up]; (repeat' split) <;> first | rfl | (exfalso; omega)), F50.congr (fun i hi => by simp only [up]; (repeat' split) <;> first | rfl | (exfalso; omega))⟩
theorem d4_0 : decode prog_1_method_5_code 0 = .ok (.aload_n 0, 1) := by decide +kernel
theorem d4_1 : decode prog_1_method_5_code 1 = .ok (.getfield 13, 3) := by decide +kernel
theorem d4_4 : decode prog_1_method_5_code 4 = .ok (.newarray .double, 2) := by decide +kernel
theorem d4_6 : decode prog_1_method_5_code 6 = .ok (.astore_n 3, 1) := by decide +kernel
theorem d4_7 : decode prog_1_method_5_code 7 = .ok (.lconst 0, 1) := by decide +kernel
theorem d4_8 : decode prog_1_method_5_code 8 = .ok (.lstore 4, 2) := by decide +kernel
theorem d4_10 : decode prog_1_method_5_code 10 = .ok (.iconst 0, 1) := by decide +kernel
theorem d4_11 : decode prog_1_method_5_code 11 = .ok (.istore 6, 2) := by decide +kernel
theorem d4_13 : decode prog_1_method_5_code 13 = .ok (.iload 6, 2) := by decide +kernel
theorem d4_15 : decode prog_1_method_5_code 15 = .ok (.aload_n 0, 1) := by decide +kernel
theorem d4_16 : decode prog_1_method_5_code 16 = .ok (.getfield 13, 3) := by decide +kernel
theorem d4_19 : decode prog_1_method_5_code 19 = .ok (.if_icmp .ge 138, 3) := by decide +kernel
theorem d4_22 : decode prog_1_method_5_code 22 = .ok (.lload 4, 2) := by decide +kernel
theorem d4_24 : decode prog_1_method_5_code 24 = .ok (.lload_n 1, 1) := by decide +kernel
theorem d4_25 : decode prog_1_method_5_code 25 = .ok (.lcmp, 1) := by decide +kernel
theorem d4_26 : decode prog_1_method_5_code 26 = .ok (.ifCond .gt 131, 3) := by decide +kernel
theorem d4_29 : decode prog_1_method_5_code 29 = .ok (.aload_n 3, 1) := by decide +kernel
theorem d4_30 : decode prog_1_method_5_code 30 = .ok (.iload 6, 2) := by decide +kernel
theorem d4_32 : decode prog_1_method_5_code 32 = .ok (.aload_n 0, 1) := by decide +kernel
theorem d4_33 : decode prog_1_method_5_code 33 = .ok (.getfield 16, 3) := by decide +kernel
theorem d4_36 : decode prog_1_method_5_code 36 = .ok (.iload 6, 2) := by decide +kernel
theorem d4_38 : decode prog_1_method_5_code 38 = .ok (.daload, 1) := by decide +kernel
theorem d4_39 : decode prog_1_method_5_code 39 = .ok (.dastore, 1) := by decide +kernel
theorem d4_40 : decode prog_1_method_5_code 40 = .ok (.iconst 0, 1) := by decide +kernel
theorem d4_41 : decode prog_1_method_5_code 41 = .ok (.istore 7, 2) := by decide +kernel
theorem d4_43 : decode prog_1_method_5_code 43 = .ok (.iload 7, 2) := by decide +kernel
theorem d4_45 : decode prog_1_method_5_code 45 = .ok (.aload_n 0, 1) := by decide +kernel
theorem d4_46 : decode prog_1_method_5_code 46 = .ok (.getfield 34, 3) := by decide +kernel
theorem d4_49 : decode prog_1_method_5_code 49 = .ok (.iload 6, 2) := by decide +kernel
theorem d4_51 : decode prog_1_method_5_code 51 = .ok (.iaload, 1) := by decide +kernel
theorem d4_52 : decode prog_1_method_5_code 52 = .ok (.if_icmp .ge 26, 3) := by decide +kernel
theorem d4_55 : decode prog_1_method_5_code 55 = .ok (.aload_n 3, 1) := by decide +kernel
theorem d4_56 : decode prog_1_method_5_code 56 = .ok (.iload 6, 2) := by decide +kernel
theorem d4_58 : decode prog_1_method_5_code 58 = .ok (.dup2, 1) := by decide +kernel
theorem d4_59 : decode prog_1_method_5_code 59 = .ok (.daload, 1) := by decide +kernel
theorem d4_60 : decode prog_1_method_5_code 60 = .ok (.aload_n 0, 1) := by decide +kernel
theorem d4_61 : decode prog_1_method_5_code 61 = .ok (.getfield 30, 3) := by decide +kernel
theorem d4_64 : decode prog_1_method_5_code 64 = .ok (.iload 6, 2) := by decide +kernel
theorem d4_66 : decode prog_1_method_5_code 66 = .ok (.aaload, 1) := by decide +kernel
theorem d4_67 : decode prog_1_method_5_code 67 = .ok (.iload 7, 2) := by decide +kernel
theorem d4_69 : decode prog_1_method_5_code 69 = .ok (.daload, 1) := by decide +kernel
theorem d4_70 : decode prog_1_method_5_code 70 = .ok (.dadd, 1) := by decide +kernel
theorem d4_71 : decode prog_1_method_5_code 71 = .ok (.dastore, 1) := by decide +kernel
theorem d4_72 : decode prog_1_method_5_code 72 = .ok (.iinc 7 1, 3) := by decide +kernel
theorem d4_75 : decode prog_1_method_5_code 75 = .ok (.goto (-32), 3) := by decide +kernel
theorem d4_78 : decode prog_1_method_5_code 78 = .ok (.iconst 0, 1) := by decide +kernel
theorem d4_79 : decode prog_1_method_5_code 79 = .ok (.istore 7, 2) := by decide +kernel
theorem d4_81 : decode prog_1_method_5_code 81 = .ok (.iload 7, 2) := by decide +kernel
theorem d4_83 : decode prog_1_method_5_code 83 = .ok (.aload_n 0, 1) := by decide +kernel
theorem d4_84 : decode prog_1_method_5_code 84 = .ok (.getfield 40, 3) := by decide +kernel
theorem d4_87 : decode prog_1_method_5_code 87 = .ok (.iload 6, 2) := by decide +kernel
theorem d4_89 : decode prog_1_method_5_code 89 = .ok (.iaload, 1) := by decide +kernel
theorem d4_90 : decode prog_1_method_5_code 90 = .ok (.if_icmp .ge 61, 3) := by decide +kernel
theorem d4_93 : decode prog_1_method_5_code 93 = .ok (.aload_n 0, 1) := by decide +kernel
theorem d4_94 : decode prog_1_method_5_code 94 = .ok (.getfield 37, 3) := by decide +kernel
theorem d4_97 : decode prog_1_method_5_code 97 = .ok (.iload 6, 2) := by decide +kernel
theorem d4_99 : decode prog_1_method_5_code 99 = .ok (.aaload, 1) := by decide +kernel
theorem d4_100 : decode prog_1_method_5_code 100 = .ok (.iload 7, 2) := by decide +kernel
theorem d4_102 : decode prog_1_method_5_code 102 = .ok (.iaload, 1) := by decide +kernel
theorem d4_103 : decode prog_1_method_5_code 103 = .ok (.istore 8, 2) := by decide +kernel
theorem d4_105 : decode prog_1_method_5_code 105 = .ok (.iload 8, 2) := by decide +kernel
theorem d4_107 : decode prog_1_method_5_code 107 = .ok (.iload 6, 2) := by decide +kernel
theorem d4_109 : decode prog_1_method_5_code 109 = .ok (.if_icmp .le 36, 3) := by decide +kernel
theorem d4_112 : decode prog_1_method_5_code 112 = .ok (.lload 4, 2) := by decide +kernel
theorem d4_114 : decode prog_1_method_5_code 114 = .ok (.aload_n 0, 1) := by decide +kernel
theorem d4_115 : decode prog_1_method_5_code 115 = .ok (.getfield 34, 3) := by decide +kernel
theorem d4_118 : decode prog_1_method_5_code 118 = .ok (.iload 8, 2) := by decide +kernel
theorem d4_120 : decode prog_1_method_5_code 120 = .ok (.iaload, 1) := by decide +kernel
theorem d4_121 : decode prog_1_method_5_code 121 = .ok (.aload_n 0, 1) := by decide +kernel
theorem d4_122 : decode prog_1_method_5_code 122 = .ok (.getfield 34, 3) := by decide +kernel
theorem d4_125 : decode prog_1_method_5_code 125 = .ok (.iload 6, 2) := by decide +kernel
theorem d4_127 : decode prog_1_method_5_code 127 = .ok (.iaload, 1) := by decide +kernel
theorem d4_128 : decode prog_1_method_5_code 128 = .ok (.iadd, 1) := by decide +kernel
theorem d4_129 : decode prog_1_method_5_code 129 = .ok (.i2l, 1) := by decide +kernel
theorem d4_130 : decode prog_1_method_5_code 130 = .ok (.ladd, 1) := by decide +kernel
theorem d4_131 : decode prog_1_method_5_code 131 = .ok (.lstore 4, 2) := by decide +kernel
theorem d4_133 : decode prog_1_method_5_code 133 = .ok (.aload_n 0, 1) := by decide +kernel
theorem d4_134 : decode prog_1_method_5_code 134 = .ok (.iload 8, 2) := by decide +kernel
theorem d4_136 : decode prog_1_method_5_code 136 = .ok (.iload 6, 2) := by decide +kernel
theorem d4_138 : decode prog_1_method_5_code 138 = .ok (.aload_n 3, 1) := by decide +kernel
theorem d4_139 : decode prog_1_method_5_code 139 = .ok (.iload 6, 2) := by decide +kernel
theorem d4_141 : decode prog_1_method_5_code 141 = .ok (.daload, 1) := by decide +kernel
theorem d4_142 : decode prog_1_method_5_code 142 = .ok (.invokevirtual 66, 3) := by decide +kernel
theorem d4_145 : decode prog_1_method_5_code 145 = .ok (.iinc 7 1, 3) := by decide +kernel
theorem d4_148 : decode prog_1_method_5_code 148 = .ok (.goto (-67), 3) := by decide +kernel
theorem d4_151 : decode prog_1_method_5_code 151 = .ok (.iinc 6 1, 3) := by decide +kernel
theorem d4_154 : decode prog_1_method_5_code 154 = .ok (.goto (-141), 3) := by decide +kernel
theorem d4_157 : decode prog_1_method_5_code 157 = .ok (.lload 4, 2) := by decide +kernel
theorem d4_159 : decode prog_1_method_5_code 159 = .ok (.lload_n 1, 1) := by decide +kernel
theorem d4_160 : decode prog_1_method_5_code 160 = .ok (.lcmp, 1) := by decide +kernel
theorem d4_161 : decode prog_1_method_5_code 161 = .ok (.ifCond .le 5, 3) := by decide +kernel
theorem d4_164 : decode prog_1_method_5_code 164 = .ok (.aconst_null, 1) := by decide +kernel
theorem d4_165 : decode prog_1_method_5_code 165 = .ok (.areturn, 1) := by decide +kernel
theorem d4_166 : decode prog_1_method_5_code 166 = .ok (.aload_n 0, 1) := by decide +kernel
theorem d4_167 : decode prog_1_method_5_code 167 = .ok (.getfield 13, 3) := by decide +kernel
theorem d4_170 : decode prog_1_method_5_code 170 = .ok (.newarray .double, 2) := by decide +kernel
theorem d4_172 : decode prog_1_method_5_code 172 = .ok (.astore 6, 2) := by decide +kernel
theorem d4_174 : decode prog_1_method_5_code 174 = .ok (.aload_n 0, 1) := by decide +kernel
theorem d4_175 : decode prog_1_method_5_code 175 = .ok (.getfield 13, 3) := by decide +kernel
theorem d4_178 : decode prog_1_method_5_code 178 = .ok (.iconst 1, 1) := by decide +kernel
theorem d4_179 : decode prog_1_method_5_code 179 = .ok (.isub, 1) := by decide +kernel
theorem d4_180 : decode prog_1_method_5_code 180 = .ok (.istore 7, 2) := by decide +kernel
theorem d4_182 : decode prog_1_method_5_code 182 = .ok (.iload 7, 2) := by decide +kernel
theorem d4_184 : decode prog_1_method_5_code 184 = .ok (.ifCond .lt 80, 3) := by decide +kernel
theorem d4_187 : decode prog_1_method_5_code 187 = .ok (.aload_n 0, 1) := by decide +kernel
theorem d4_188 : decode prog_1_method_5_code 188 = .ok (.getfield 20, 3) := by decide +kernel
theorem d4_191 : decode prog_1_method_5_code 191 = .ok (.iload 7, 2) := by decide +kernel
theorem d4_193 : decode prog_1_method_5_code 193 = .ok (.daload, 1) := by decide +kernel
theorem d4_194 : decode prog_1_method_5_code 194 = .ok (.dstore 8, 2) := by decide +kernel
theorem d4_196 : decode prog_1_method_5_code 196 = .ok (.iconst 0, 1) := by decide +kernel
theorem d4_197 : decode prog_1_method_5_code 197 = .ok (.istore 10, 2) := by decide +kernel
theorem d4_199 : decode prog_1_method_5_code 199 = .ok (.iload 10, 2) := by decide +kernel
theorem d4_201 : decode prog_1_method_5_code 201 = .ok (.aload_n 0, 1) := by decide +kernel
theorem d4_202 : decode prog_1_method_5_code 202 = .ok (.getfield 34, 3) := by decide +kernel
theorem d4_205 : decode prog_1_method_5_code 205 = .ok (.iload 7, 2) := by decide +kernel
theorem d4_207 : decode prog_1_method_5_code 207 = .ok (.iaload, 1) := by decide +kernel
theorem d4_208 : decode prog_1_method_5_code 208 = .ok (.if_icmp .ge 38, 3) := by decide +kernel
theorem d4_211 : decode prog_1_method_5_code 211 = .ok (.dload 8, 2) := by decide +kernel
theorem d4_213 : decode prog_1_method_5_code 213 = .ok (.aload_n 0, 1) := by decide +kernel
theorem d4_214 : decode prog_1_method_5_code 214 = .ok (.getfield 30, 3) := by decide +kernel
theorem d4_217 : decode prog_1_method_5_code 217 = .ok (.iload 7, 2) := by decide +kernel
theorem d4_219 : decode prog_1_method_5_code 219 = .ok (.aaload, 1) := by decide +kernel
theorem d4_220 : decode prog_1_method_5_code 220 = .ok (.iload 10, 2) := by decide +kernel
theorem d4_222 : decode prog_1_method_5_code 222 = .ok (.daload, 1) := by decide +kernel
theorem d4_223 : decode prog_1_method_5_code 223 = .ok (.aload 6, 2) := by decide +kernel
theorem d4_225 : decode prog_1_method_5_code 225 = .ok (.aload_n 0, 1) := by decide +kernel
theorem d4_226 : decode prog_1_method_5_code 226 = .ok (.getfield 25, 3) := by decide +kernel
theorem d4_229 : decode prog_1_method_5_code 229 = .ok (.iload 7, 2) := by decide +kernel
theorem d4_231 : decode prog_1_method_5_code 231 = .ok (.aaload, 1) := by decide +kernel
theorem d4_232 : decode prog_1_method_5_code 232 = .ok (.iload 10, 2) := by decide +kernel
theorem d4_234 : decode prog_1_method_5_code 234 = .ok (.iaload, 1) := by decide +kernel
theorem d4_235 : decode prog_1_method_5_code 235 = .ok (.daload, 1) := by decide +kernel
theorem d4_236 : decode prog_1_method_5_code 236 = .ok (.dmul, 1) := by decide +kernel
theorem d4_237 : decode prog_1_method_5_code 237 = .ok (.dadd, 1) := by decide +kernel
theorem d4_238 : decode prog_1_method_5_code 238 = .ok (.dstore 8, 2) := by decide +kernel
theorem d4_240 : decode prog_1_method_5_code 240 = .ok (.iinc 10 1, 3) := by decide +kernel
theorem d4_243 : decode prog_1_method_5_code 243 = .ok (.goto (-44), 3) := by decide +kernel
theorem d4_246 : decode prog_1_method_5_code 246 = .ok (.aload 6, 2) := by decide +kernel
theorem d4_248 : decode prog_1_method_5_code 248 = .ok (.iload 7, 2) := by decide +kernel
theorem d4_250 : decode prog_1_method_5_code 250 = .ok (.dload 8, 2) := by decide +kernel
theorem d4_252 : decode prog_1_method_5_code 252 = .ok (.aload_n 3, 1) := by decide +kernel
theorem d4_253 : decode prog_1_method_5_code 253 = .ok (.iload 7, 2) := by decide +kernel
theorem d4_255 : decode prog_1_method_5_code 255 = .ok (.daload, 1) := by decide +kernel
theorem d4_256 : decode prog_1_method_5_code 256 = .ok (.ddiv, 1) := by decide +kernel
theorem d4_257 : decode prog_1_method_5_code 257 = .ok (.dastore, 1) := by decide +kernel
theorem d4_258 : decode prog_1_method_5_code 258 = .ok (.iinc 7 (-1), 3) := by decide +kernel
theorem d4_261 : decode prog_1_method_5_code 261 = .ok (.goto (-79), 3) := by decide +kernel
theorem d4_264 : decode prog_1_method_5_code 264 = .ok (.aload 6, 2) := by decide +kernel
theorem d4_266 : decode prog_1_method_5_code 266 = .ok (.areturn, 1) := by decide +kernel
set_option maxRecDepth 65536 in
set_option maxHeartbeats 40000000 in
theorem own_4_4 (l : Launch) (Z : State) (a0 : Array Value) (hw : ∀ d ∈ tables_1, d.before a0 Z = true) (n0 : Nat) (h0 : Heap) (hsz : n0 ≤ h0.size) (o0 : Addr) (o1 : Addr) (o2 : Addr) (o3 : Addr) (o4 : Addr) (o5 : Addr) (o6 : Addr) (o7 : Addr) (o8 : Addr) (o9 : Addr) (o10 : Addr) (o11 : Addr) (o12 : Addr) (o13 : Addr) (o14 : Addr) (o15 : Addr) (z0 : UInt64) (z1 : UInt64) (z2 : UInt64) (z3 : UInt64) (P0 : Exa Z h0 o0 "com/example/torino/torino/AbsorbingChain") (P1 : Fld Z h0 o0 "com/example/torino/torino/AbsorbingChain" "markedRow" "I" (.int (-1 : Int32))) (P2 : Fld Z h0 o0 "com/example/torino/torino/AbsorbingChain" "size" "I" (.int (2 : Int32))) (P3 : Exa Z h0 o1 "[D") (P4 : Fld Z h0 o0 "com/example/torino/torino/AbsorbingChain" "exitProbabilities" "[D" (.ref o1)) (P5 : Exa Z h0 o2 "[D") (P6 : Fld Z h0 o0 "com/example/torino/torino/AbsorbingChain" "exitValues" "[D" (.ref o2)) (P7 : Exa Z h0 o3 "[[I") (P8 : Fld Z h0 o0 "com/example/torino/torino/AbsorbingChain" "nexts" "[[I" (.ref o3)) (P9 : Exa Z h0 o4 "[[D") (P10 : Fld Z h0 o0 "com/example/torino/torino/AbsorbingChain" "probabilities" "[[D" (.ref o4)) (P11 : Exa Z h0 o5 "[I") (P12 : Fa Z h0 o5 .int 2 (fun _ => (.int (0 : Int32)))) (P13 : Fld Z h0 o0 "com/example/torino/torino/AbsorbingChain" "lengths" "[I" (.ref o5)) (P14 : Exa Z h0 o6 "[[I") (P15 : Fld Z h0 o0 "com/example/torino/torino/AbsorbingChain" "predecessors" "[[I" (.ref o6)) (P16 : Exa Z h0 o7 "[I") (P17 : Fa Z h0 o7 .int 2 (fun _ => (.int (0 : Int32)))) (P18 : Fld Z h0 o0 "com/example/torino/torino/AbsorbingChain" "predecessorCounts" "[I" (.ref o7)) (P19 : Exa Z h0 o8 "[I") (P20 : Fa Z h0 o8 .int 2 (fun _ => (.int (0 : Int32)))) (P21 : Fld Z h0 o0 "com/example/torino/torino/AbsorbingChain" "entryMarks" "[I" (.ref o8)) (P22 : Exa Z h0 o9 "[I") (P23 : Fa Z h0 o9 .int 2 (fun _ => (.int (0 : Int32)))) (P24 : Fld Z h0 o0 "com/example/torino/torino/AbsorbingChain" "entries" "[I" (.ref o9)) (P25 : Exa Z h0 o10 "[I") (P26 : Fa Z h0 o10 .int 2 (fun _ => (.int (0 : Int32)))) (P27 : Exa Z h0 o12 "[D") (P28 : Fa Z h0 o12 .double 2 (fun _ => (.double (0 : UInt64)))) (P29 : Exa Z h0 o14 "[I") (P30 : Fa Z h0 o14 .int 2 (fun _ => (.int (0 : Int32)))) (P31 : Exa Z h0 o11 "[I") (P32 : Fa Z h0 o11 .int 2 (fun _ => (.int (0 : Int32)))) (P33 : FaA Z h0 o3 .int "[I" 2 (up (up (fun _ => .null) 0 (.ref o10)) 1 (.ref o11))) (P34 : Exa Z h0 o13 "[D") (P35 : Fa Z h0 o13 .double 2 (fun _ => (.double (0 : UInt64)))) (P36 : FaA Z h0 o4 .double "[D" 2 (up (up (fun _ => .null) 0 (.ref o12)) 1 (.ref o13))) (P37 : Exa Z h0 o15 "[I") (P38 : Fa Z h0 o15 .int 2 (fun _ => (.int (0 : Int32)))) (P39 : FaA Z h0 o6 .int "[I" 2 (up (up (fun _ => .null) 0 (.ref o14)) 1 (.ref o15))) (P40 : Fa Z h0 o1 .double 2 (up (up (fun _ => (.double (0 : UInt64))) 0 (.double z0)) 1 (.double z1))) (P41 : Fa Z h0 o2 .double 2 (up (up (fun _ => (.double (0 : UInt64))) 0 (.double z2)) 1 (.double z3))) (N_o0_o1 : o0 ≠ o1) (N_o0_o2 : o0 ≠ o2) (N_o0_o3 : o0 ≠ o3) (N_o0_o4 : o0 ≠ o4) (N_o0_o5 : o0 ≠ o5) (N_o0_o6 : o0 ≠ o6) (N_o0_o7 : o0 ≠ o7) (N_o0_o8 : o0 ≠ o8) (N_o0_o9 : o0 ≠ o9) (N_o0_o10 : o0 ≠ o10) (N_o0_o11 : o0 ≠ o11) (N_o0_o12 : o0 ≠ o12) (N_o0_o13 : o0 ≠ o13) (N_o0_o14 : o0 ≠ o14) (N_o0_o15 : o0 ≠ o15) (N_o1_o2 : o1 ≠ o2) (N_o1_o3 : o1 ≠ o3) (N_o1_o4 : o1 ≠ o4) (N_o1_o5 : o1 ≠ o5) (N_o1_o6 : o1 ≠ o6) (N_o1_o7 : o1 ≠ o7) (N_o1_o8 : o1 ≠ o8) (N_o1_o9 : o1 ≠ o9) (N_o1_o10 : o1 ≠ o10) (N_o1_o11 : o1 ≠ o11) (N_o1_o12 : o1 ≠ o12) (N_o1_o13 : o1 ≠ o13) (N_o1_o14 : o1 ≠ o14) (N_o1_o15 : o1 ≠ o15) (N_o2_o3 : o2 ≠ o3) (N_o2_o4 : o2 ≠ o4) (N_o2_o5 : o2 ≠ o5) (N_o2_o6 : o2 ≠ o6) (N_o2_o7 : o2 ≠ o7) (N_o2_o8 : o2 ≠ o8) (N_o2_o9 : o2 ≠ o9) (N_o2_o10 : o2 ≠ o10) (N_o2_o11 : o2 ≠ o11) (N_o2_o12 : o2 ≠ o12) (N_o2_o13 : o2 ≠ o13) (N_o2_o14 : o2 ≠ o14) (N_o2_o15 : o2 ≠ o15) (N_o3_o4 : o3 ≠ o4) (N_o3_o5 : o3 ≠ o5) (N_o3_o6 : o3 ≠ o6) (N_o3_o7 : o3 ≠ o7) (N_o3_o8 : o3 ≠ o8) (N_o3_o9 : o3 ≠ o9) (N_o3_o10 : o3 ≠ o10) (N_o3_o11 : o3 ≠ o11) (N_o3_o12 : o3 ≠ o12) (N_o3_o13 : o3 ≠ o13) (N_o3_o14 : o3 ≠ o14) (N_o3_o15 : o3 ≠ o15) (N_o4_o5 : o4 ≠ o5) (N_o4_o6 : o4 ≠ o6) (N_o4_o7 : o4 ≠ o7) (N_o4_o8 : o4 ≠ o8) (N_o4_o9 : o4 ≠ o9) (N_o4_o10 : o4 ≠ o10) (N_o4_o11 : o4 ≠ o11) (N_o4_o12 : o4 ≠ o12) (N_o4_o13 : o4 ≠ o13) (N_o4_o14 : o4 ≠ o14) (N_o4_o15 : o4 ≠ o15) (N_o5_o6 : o5 ≠ o6) (N_o5_o7 : o5 ≠ o7) (N_o5_o8 : o5 ≠ o8) (N_o5_o9 : o5 ≠ o9) (N_o5_o10 : o5 ≠ o10) (N_o5_o11 : o5 ≠ o11) (N_o5_o12 : o5 ≠ o12) (N_o5_o13 : o5 ≠ o13) (N_o5_o14 : o5 ≠ o14) (N_o5_o15 : o5 ≠ o15) (N_o6_o7 : o6 ≠ o7) (N_o6_o8 : o6 ≠ o8) (N_o6_o9 : o6 ≠ o9) (N_o6_o10 : o6 ≠ o10) (N_o6_o11 : o6 ≠ o11) (N_o6_o12 : o6 ≠ o12) (N_o6_o13 : o6 ≠ o13) (N_o6_o14 : o6 ≠ o14) (N_o6_o15 : o6 ≠ o15) (N_o7_o8 : o7 ≠ o8) (N_o7_o9 : o7 ≠ o9) (N_o7_o10 : o7 ≠ o10) (N_o7_o11 : o7 ≠ o11) (N_o7_o12 : o7 ≠ o12) (N_o7_o13 : o7 ≠ o13) (N_o7_o14 : o7 ≠ o14) (N_o7_o15 : o7 ≠ o15) (N_o8_o9 : o8 ≠ o9) (N_o8_o10 : o8 ≠ o10) (N_o8_o11 : o8 ≠ o11) (N_o8_o12 : o8 ≠ o12) (N_o8_o13 : o8 ≠ o13) (N_o8_o14 : o8 ≠ o14) (N_o8_o15 : o8 ≠ o15) (N_o9_o10 : o9 ≠ o10) (N_o9_o11 : o9 ≠ o11) (N_o9_o12 : o9 ≠ o12) (N_o9_o13 : o9 ≠ o13) (N_o9_o14 : o9 ≠ o14) (N_o9_o15 : o9 ≠ o15) (N_o10_o11 : o10 ≠ o11) (N_o10_o12 : o10 ≠ o12) (N_o10_o13 : o10 ≠ o13) (N_o10_o14 : o10 ≠ o14) (N_o10_o15 : o10 ≠ o15) (N_o11_o12 : o11 ≠ o12) (N_o11_o13 : o11 ≠ o13) (N_o11_o14 : o11 ≠ o14) (N_o11_o15 : o11 ≠ o15) (N_o12_o13 : o12 ≠ o13) (N_o12_o14 : o12 ≠ o14) (N_o12_o15 : o12 ≠ o15) (N_o13_o14 : o13 ≠ o14) (N_o13_o15 : o13 ≠ o15) (N_o14_o15 : o14 ≠ o15) (G_o0 : n0 ≤ o0) (G_o1 : n0 ≤ o1) (G_o2 : n0 ≤ o2) (G_o3 : n0 ≤ o3) (G_o4 : n0 ≤ o4) (G_o5 : n0 ≤ o5) (G_o6 : n0 ≤ o6) (G_o7 : n0 ≤ o7) (G_o8 : n0 ≤ o8) (G_o9 : n0 ≤ o9) (G_o10 : n0 ≤ o10) (G_o11 : n0 ≤ o11) (G_o12 : n0 ≤ o12) (G_o13 : n0 ≤ o13) (G_o14 : n0 ≤ o14) (G_o15 : n0 ≤ o15) (nn_0 : Jvm.Free.Fl.NoNaN64 (FP.ddiv z3 z1)) (nn_1 : Jvm.Free.Fl.NoNaN64 (FP.ddiv z2 z0)) :
    Met false l Z n0 (⟨"com/example/torino/torino/AbsorbingChain", "solve", "(J)[D"⟩ : MethodName) prog_1_method_5_code 11 (some (.array .double)) ({ frames := 0, cells := 2, slots := 4, locals := 0 } : Room) #[(.ref o0), (.long (1000 : Int64))] h0 (fun v h => ∃ b169 : Addr, v = some (.ref b169) ∧ Keep h0 h [] ∧ h0.size ≤ b169 ∧ Exa Z h b169 "[D" ∧ Fa Z h b169 .double 2 (up (up (fun _ => (.double (0 : UInt64))) 0 (.double (FP.ddiv z2 z0))) 1 (.double (FP.ddiv z3 z1)))) := by
  refine Met.of (plainFor_of_name pn_0) #[.val (.ref o0), .val (.long (1000 : Int64)), .second, .unset, .unset, .unset, .unset, .unset, .unset, .unset, .unset] (fun m => by first | (simp [entryFrame, mkF, argsToLocals, Value.category]; done) | rfl) ?_
  intro p e s m below meth c C
  refine Wk.st (g' := (mkF m 1 #[.val (.ref o0), .val (.long (1000 : Int64)), .second, .unset, .unset, .unset, .unset, .unset, .unset, .unset, .unset] [(.ref o0)])) (fun X t q => XS.aloadN X.here C.hx rfl (hb C.hby d4_0) rfl rfl q) ?_
  refine Wk.getF C (hw _ (List.mem_of_getElem? (i := 11) rfl)) Via.refl P2 d4_1 ?_
  show Wk _ p l e _ s m _ below meth c n0 _ h0 0 0 (mkF m 4 #[.val (.ref o0), .val (.long (1000 : Int64)), .second, .unset, .unset, .unset, .unset, .unset, .unset, .unset, .unset] [(.int (2 : Int32))])
  refine Wk.fNewP C (hw _ (List.mem_of_getElem? (i := 13) rfl)) (ty := .double) (dv := (.double (0 : UInt64))) (N := 2) (ad := "[D") rfl rfl (by decide) (by decide) (by decide) (cap := 2) (by decide) (by decide) d4_4 (by decide) (by decide) ?_
  intro h1 b2 g3 E4 A5 F6
  have ne7 : o0 ≠ b2 := Nat.ne_of_lt (Nat.lt_of_lt_of_le P0.lt (Nat.le_of_eq g3.symm))
  have ne8 : o1 ≠ b2 := Nat.ne_of_lt (Nat.lt_of_lt_of_le P3.lt (Nat.le_of_eq g3.symm))
  have ne9 : o2 ≠ b2 := Nat.ne_of_lt (Nat.lt_of_lt_of_le P5.lt (Nat.le_of_eq g3.symm))
  have ne10 : o3 ≠ b2 := Nat.ne_of_lt (Nat.lt_of_lt_of_le P7.lt (Nat.le_of_eq g3.symm))
  have ne11 : o4 ≠ b2 := Nat.ne_of_lt (Nat.lt_of_lt_of_le P9.lt (Nat.le_of_eq g3.symm))
  have ne12 : o5 ≠ b2 := Nat.ne_of_lt (Nat.lt_of_lt_of_le P11.lt (Nat.le_of_eq g3.symm))
  have ne13 : o6 ≠ b2 := Nat.ne_of_lt (Nat.lt_of_lt_of_le P14.lt (Nat.le_of_eq g3.symm))
  have ne14 : o7 ≠ b2 := Nat.ne_of_lt (Nat.lt_of_lt_of_le P16.lt (Nat.le_of_eq g3.symm))
  have ne15 : o8 ≠ b2 := Nat.ne_of_lt (Nat.lt_of_lt_of_le P19.lt (Nat.le_of_eq g3.symm))
  have ne16 : o9 ≠ b2 := Nat.ne_of_lt (Nat.lt_of_lt_of_le P22.lt (Nat.le_of_eq g3.symm))
  have ne17 : o10 ≠ b2 := Nat.ne_of_lt (Nat.lt_of_lt_of_le P25.lt (Nat.le_of_eq g3.symm))
  have ne18 : o12 ≠ b2 := Nat.ne_of_lt (Nat.lt_of_lt_of_le P27.lt (Nat.le_of_eq g3.symm))
  have ne19 : o14 ≠ b2 := Nat.ne_of_lt (Nat.lt_of_lt_of_le P29.lt (Nat.le_of_eq g3.symm))
  have ne20 : o11 ≠ b2 := Nat.ne_of_lt (Nat.lt_of_lt_of_le P31.lt (Nat.le_of_eq g3.symm))
  have ne21 : o13 ≠ b2 := Nat.ne_of_lt (Nat.lt_of_lt_of_le P34.lt (Nat.le_of_eq g3.symm))
  have ne22 : o15 ≠ b2 := Nat.ne_of_lt (Nat.lt_of_lt_of_le P37.lt (Nat.le_of_eq g3.symm))
  have ge23 : n0 ≤ b2 := Nat.le_trans hsz (Nat.le_of_eq g3.symm)
  have gz24 : h0.size ≤ b2 := Nat.le_trans (Nat.le_refl h0.size) (Nat.le_of_eq g3.symm)
  have F25 : Exa Z h1 o0 "com/example/torino/torino/AbsorbingChain" := P0.ext E4
  have F26 : Fld Z h1 o0 "com/example/torino/torino/AbsorbingChain" "markedRow" "I" (.int (-1 : Int32)) := P1.ext E4
  have F27 : Fld Z h1 o0 "com/example/torino/torino/AbsorbingChain" "size" "I" (.int (2 : Int32)) := P2.ext E4
  have F28 : Exa Z h1 o1 "[D" := P3.ext E4
  have F29 : Fld Z h1 o0 "com/example/torino/torino/AbsorbingChain" "exitProbabilities" "[D" (.ref o1) := P4.ext E4
  have F30 : Exa Z h1 o2 "[D" := P5.ext E4
  have F31 : Fld Z h1 o0 "com/example/torino/torino/AbsorbingChain" "exitValues" "[D" (.ref o2) := P6.ext E4
  have F32 : Exa Z h1 o3 "[[I" := P7.ext E4
  have F33 : Fld Z h1 o0 "com/example/torino/torino/AbsorbingChain" "nexts" "[[I" (.ref o3) := P8.ext E4
  have F34 : Exa Z h1 o4 "[[D" := P9.ext E4
  have F35 : Fld Z h1 o0 "com/example/torino/torino/AbsorbingChain" "probabilities" "[[D" (.ref o4) := P10.ext E4
  have F36 : Exa Z h1 o5 "[I" := P11.ext E4
  have F37 : Fa Z h1 o5 .int 2 (fun _ => (.int (0 : Int32))) := P12.ext E4
  have F38 : Fld Z h1 o0 "com/example/torino/torino/AbsorbingChain" "lengths" "[I" (.ref o5) := P13.ext E4
  have F39 : Exa Z h1 o6 "[[I" := P14.ext E4
  have F40 : Fld Z h1 o0 "com/example/torino/torino/AbsorbingChain" "predecessors" "[[I" (.ref o6) := P15.ext E4
  have F41 : Exa Z h1 o7 "[I" := P16.ext E4
  have F42 : Fa Z h1 o7 .int 2 (fun _ => (.int (0 : Int32))) := P17.ext E4
  have F43 : Fld Z h1 o0 "com/example/torino/torino/AbsorbingChain" "predecessorCounts" "[I" (.ref o7) := P18.ext E4
  have F44 : Exa Z h1 o8 "[I" := P19.ext E4
  have F45 : Fa Z h1 o8 .int 2 (fun _ => (.int (0 : Int32))) := P20.ext E4
  have F46 : Fld Z h1 o0 "com/example/torino/torino/AbsorbingChain" "entryMarks" "[I" (.ref o8) := P21.ext E4
  have F47 : Exa Z h1 o9 "[I" := P22.ext E4
  have F48 : Fa Z h1 o9 .int 2 (fun _ => (.int (0 : Int32))) := P23.ext E4
  have F49 : Fld Z h1 o0 "com/example/torino/torino/AbsorbingChain" "entries" "[I" (.ref o9) := P24.ext E4
  have F50 : Exa Z h1 o10 "[I" := P25.ext E4
  have F51 : Fa Z h1 o10 .int 2 (fun _ => (.int (0 : Int32))) := P26.ext E4
  have F52 : Exa Z h1 o12 "[D" := P27.ext E4
  have F53 : Fa Z h1 o12 .double 2 (fun _ => (.double (0 : UInt64))) := P28.ext E4
  have F54 : Exa Z h1 o14 "[I" := P29.ext E4
  have F55 : Fa Z h1 o14 .int 2 (fun _ => (.int (0 : Int32))) := P30.ext E4
  have F56 : Exa Z h1 o11 "[I" := P31.ext E4
  have F57 : Fa Z h1 o11 .int 2 (fun _ => (.int (0 : Int32))) := P32.ext E4
  have F58 : FaA Z h1 o3 .int "[I" 2 (up (up (fun _ => .null) 0 (.ref o10)) 1 (.ref o11)) := P33.ext E4
  have F59 : Exa Z h1 o13 "[D" := P34.ext E4
  have F60 : Fa Z h1 o13 .double 2 (fun _ => (.double (0 : UInt64))) := P35.ext E4
  have F61 : FaA Z h1 o4 .double "[D" 2 (up (up (fun _ => .null) 0 (.ref o12)) 1 (.ref o13)) := P36.ext E4
  have F62 : Exa Z h1 o15 "[I" := P37.ext E4
  have F63 : Fa Z h1 o15 .int 2 (fun _ => (.int (0 : Int32))) := P38.ext E4
  have F64 : FaA Z h1 o6 .int "[I" 2 (up (up (fun _ => .null) 0 (.ref o14)) 1 (.ref o15)) := P39.ext E4
  have F65 : Fa Z h1 o1 .double 2 (up (up (fun _ => (.double (0 : UInt64))) 0 (.double z0)) 1 (.double z1)) := P40.ext E4
  have F66 : Fa Z h1 o2 .double 2 (up (up (fun _ => (.double (0 : UInt64))) 0 (.double z2)) 1 (.double z3)) := P41.ext E4
  have sz67 : n0 ≤ h1.size := Nat.le_trans hsz E4.1
  have sy68 : h0.size ≤ h1.size := Nat.le_trans (Nat.le_refl h0.size) E4.1
  have K69 := (Keep.refl h0 []).ext E4
  show Wk _ p l e _ s m _ below meth c n0 _ h1 1 2 (mkF m 6 #[.val (.ref o0), .val (.long (1000 : Int64)), .second, .unset, .unset, .unset, .unset, .unset, .unset, .unset, .unset] [(.ref b2)])
  refine Wk.st (g' := (mkF m 7 #[.val (.ref o0), .val (.long (1000 : Int64)), .second, .val (.ref b2), .unset, .unset, .unset, .unset, .unset, .unset, .unset] [])) (fun X t q => XS.astoreN X.here C.hx rfl (hb C.hby d4_6) rfl rfl (l' := #[.val (.ref o0), .val (.long (1000 : Int64)), .second, .val (.ref b2), .unset, .unset, .unset, .unset, .unset, .unset, .unset]) rfl q) ?_
  refine Wk.st (g' := (mkF m 8 #[.val (.ref o0), .val (.long (1000 : Int64)), .second, .val (.ref b2), .unset, .unset, .unset, .unset, .unset, .unset, .unset] [(.long (0 : Int64))])) (fun X t q => XS.lconst X.here C.hx rfl (hb C.hby d4_7) q) ?_
  refine Wk.st (g' := (mkF m 10 #[.val (.ref o0), .val (.long (1000 : Int64)), .second, .val (.ref b2), .val (.long (0 : Int64)), .second, .unset, .unset, .unset, .unset, .unset] [])) (fun X t q => XS.lstore X.here C.hx rfl (hb C.hby d4_8) rfl (l' := #[.val (.ref o0), .val (.long (1000 : Int64)), .second, .val (.ref b2), .val (.long (0 : Int64)), .second, .unset, .unset, .unset, .unset, .unset]) rfl q) ?_
  refine Wk.st (g' := (mkF m 11 #[.val (.ref o0), .val (.long (1000 : Int64)), .second, .val (.ref b2), .val (.long (0 : Int64)), .second, .unset, .unset, .unset, .unset, .unset] [(.int (0 : Int32))])) (fun X t q => XS.iconst X.here C.hx rfl (hb C.hby d4_10) q) ?_
  refine Wk.st (g' := (mkF m 13 #[.val (.ref o0), .val (.long (1000 : Int64)), .second, .val (.ref b2), .val (.long (0 : Int64)), .second, .val (.int (0 : Int32)), .unset, .unset, .unset, .unset] [])) (fun X t q => XS.istore X.here C.hx rfl (hb C.hby d4_11) rfl (l' := #[.val (.ref o0), .val (.long (1000 : Int64)), .second, .val (.ref b2), .val (.long (0 : Int64)), .second, .val (.int (0 : Int32)), .unset, .unset, .unset, .unset]) rfl q) ?_
  refine Wk.st (g' := (mkF m 15 #[.val (.ref o0), .val (.long (1000 : Int64)), .second, .val (.ref b2), .val (.long (0 : Int64)), .second, .val (.int (0 : Int32)), .unset, .unset, .unset, .unset] [(.int (0 : Int32))])) (fun X t q => XS.iload X.here C.hx rfl (hb C.hby d4_13) rfl q) ?_
  refine Wk.st (g' := (mkF m 16 #[.val (.ref o0), .val (.long (1000 : Int64)), .second, .val (.ref b2), .val (.long (0 : Int64)), .second, .val (.int (0 : Int32)), .unset, .unset, .unset, .unset] [(.ref o0), (.int (0 : Int32))])) (fun X t q => XS.aloadN X.here C.hx rfl (hb C.hby d4_15) rfl rfl q) ?_
  refine Wk.getF C (hw _ (List.mem_of_getElem? (i := 11) rfl)) Via.refl F27 d4_16 ?_
  show Wk _ p l e _ s m _ below meth c n0 _ h1 1 2 (mkF m 19 #[.val (.ref o0), .val (.long (1000 : Int64)), .second, .val (.ref b2), .val (.long (0 : Int64)), .second, .val (.int (0 : Int32)), .unset, .unset, .unset, .unset] [(.int (2 : Int32)), (.int (0 : Int32))])
  refine Wk.st (g' := (mkF m 22 #[.val (.ref o0), .val (.long (1000 : Int64)), .second, .val (.ref b2), .val (.long (0 : Int64)), .second, .val (.int (0 : Int32)), .unset, .unset, .unset, .unset] [])) (fun X t q => XS.icmpNo X.here C.hx rfl (hb C.hby d4_19) rfl (XT.ii_ge_f (by decide)) q) ?_
  refine Wk.st (g' := (mkF m 24 #[.val (.ref o0), .val (.long (1000 : Int64)), .second, .val (.ref b2), .val (.long (0 : Int64)), .second, .val (.int (0 : Int32)), .unset, .unset, .unset, .unset] [(.long (0 : Int64))])) (fun X t q => XS.lload X.here C.hx rfl (hb C.hby d4_22) rfl q) ?_
  refine Wk.st (g' := (mkF m 25 #[.val (.ref o0), .val (.long (1000 : Int64)), .second, .val (.ref b2), .val (.long (0 : Int64)), .second, .val (.int (0 : Int32)), .unset, .unset, .unset, .unset] [(.long (1000 : Int64)), (.long (0 : Int64))])) (fun X t q => XS.lloadN X.here C.hx rfl (hb C.hby d4_24) rfl q) ?_
  refine Wk.st (g' := (mkF m 26 #[.val (.ref o0), .val (.long (1000 : Int64)), .second, .val (.ref b2), .val (.long (0 : Int64)), .second, .val (.int (0 : Int32)), .unset, .unset, .unset, .unset] [(.int (XT.cmpL (0 : Int64) (1000 : Int64)))])) (fun X t q => XT.lcmp X.here C.hx rfl (hb C.hby d4_25) rfl q) ?_
  refine Wk.st (g' := (mkF m 29 #[.val (.ref o0), .val (.long (1000 : Int64)), .second, .val (.ref b2), .val (.long (0 : Int64)), .second, .val (.int (0 : Int32)), .unset, .unset, .unset, .unset] [])) (fun X t q => XS.ifNo X.here C.hx rfl (hb C.hby d4_26) rfl (XT.ll_gt_f (by decide)) q) ?_
  refine Wk.st (g' := (mkF m 30 #[.val (.ref o0), .val (.long (1000 : Int64)), .second, .val (.ref b2), .val (.long (0 : Int64)), .second, .val (.int (0 : Int32)), .unset, .unset, .unset, .unset] [(.ref b2)])) (fun X t q => XS.aloadN X.here C.hx rfl (hb C.hby d4_29) rfl rfl q) ?_
  refine Wk.st (g' := (mkF m 32 #[.val (.ref o0), .val (.long (1000 : Int64)), .second, .val (.ref b2), .val (.long (0 : Int64)), .second, .val (.int (0 : Int32)), .unset, .unset, .unset, .unset] [(.int (0 : Int32)), (.ref b2)])) (fun X t q => XS.iload X.here C.hx rfl (hb C.hby d4_30) rfl q) ?_
  refine Wk.st (g' := (mkF m 33 #[.val (.ref o0), .val (.long (1000 : Int64)), .second, .val (.ref b2), .val (.long (0 : Int64)), .second, .val (.int (0 : Int32)), .unset, .unset, .unset, .unset] [(.ref o0), (.int (0 : Int32)), (.ref b2)])) (fun X t q => XS.aloadN X.here C.hx rfl (hb C.hby d4_32) rfl rfl q) ?_
  refine Wk.getF C (hw _ (List.mem_of_getElem? (i := 14) rfl)) Via.refl F29 d4_33 ?_
  show Wk _ p l e _ s m _ below meth c n0 _ h1 1 2 (mkF m 36 #[.val (.ref o0), .val (.long (1000 : Int64)), .second, .val (.ref b2), .val (.long (0 : Int64)), .second, .val (.int (0 : Int32)), .unset, .unset, .unset, .unset] [(.ref o1), (.int (0 : Int32)), (.ref b2)])
  refine Wk.st (g' := (mkF m 38 #[.val (.ref o0), .val (.long (1000 : Int64)), .second, .val (.ref b2), .val (.long (0 : Int64)), .second, .val (.int (0 : Int32)), .unset, .unset, .unset, .unset] [(.int (0 : Int32)), (.ref o1), (.int (0 : Int32)), (.ref b2)])) (fun X t q => XS.iload X.here C.hx rfl (hb C.hby d4_36) rfl q) ?_
  refine Wk.fLdD C F65 (i := 0) (by decide) (by decide) (by decide) (v := (.double z0)) (by simp [up]) d4_38 ?_
  show Wk _ p l e _ s m _ below meth c n0 _ h1 1 2 (mkF m 39 #[.val (.ref o0), .val (.long (1000 : Int64)), .second, .val (.ref b2), .val (.long (0 : Int64)), .second, .val (.int (0 : Int32)), .unset, .unset, .unset, .unset] [(.double z0), (.int (0 : Int32)), (.ref b2)])
  refine Wk.fStD C F6 (i := 0) (by decide) (by decide) (by decide) ge23 d4_39 ?_
  intro h70 W71 F72
  have F73 : Exa Z h70 o0 "com/example/torino/torino/AbsorbingChain" := F25.wr W71
  have F74 : Fld Z h70 o0 "com/example/torino/torino/AbsorbingChain" "markedRow" "I" (.int (-1 : Int32)) := F26.other W71 (Or.inl ne7)
  have F75 : Fld Z h70 o0 "com/example/torino/torino/AbsorbingChain" "size" "I" (.int (2 : Int32)) := F27.other W71 (Or.inl ne7)
  have F76 : Exa Z h70 o1 "[D" := F28.wr W71
  have F77 : Fld Z h70 o0 "com/example/torino/torino/AbsorbingChain" "exitProbabilities" "[D" (.ref o1) := F29.other W71 (Or.inl ne7)
  have F78 : Exa Z h70 o2 "[D" := F30.wr W71
  have F79 : Fld Z h70 o0 "com/example/torino/torino/AbsorbingChain" "exitValues" "[D" (.ref o2) := F31.other W71 (Or.inl ne7)
  have F80 : Exa Z h70 o3 "[[I" := F32.wr W71
  have F81 : Fld Z h70 o0 "com/example/torino/torino/AbsorbingChain" "nexts" "[[I" (.ref o3) := F33.other W71 (Or.inl ne7)
  have F82 : Exa Z h70 o4 "[[D" := F34.wr W71
  have F83 : Fld Z h70 o0 "com/example/torino/torino/AbsorbingChain" "probabilities" "[[D" (.ref o4) := F35.other W71 (Or.inl ne7)
  have F84 : Exa Z h70 o5 "[I" := F36.wr W71
  have F85 : Fa Z h70 o5 .int 2 (fun _ => (.int (0 : Int32))) := F37.other W71 ne12
  have F86 : Fld Z h70 o0 "com/example/torino/torino/AbsorbingChain" "lengths" "[I" (.ref o5) := F38.other W71 (Or.inl ne7)
  have F87 : Exa Z h70 o6 "[[I" := F39.wr W71
  have F88 : Fld Z h70 o0 "com/example/torino/torino/AbsorbingChain" "predecessors" "[[I" (.ref o6) := F40.other W71 (Or.inl ne7)
  have F89 : Exa Z h70 o7 "[I" := F41.wr W71
  have F90 : Fa Z h70 o7 .int 2 (fun _ => (.int (0 : Int32))) := F42.other W71 ne14
  have F91 : Fld Z h70 o0 "com/example/torino/torino/AbsorbingChain" "predecessorCounts" "[I" (.ref o7) := F43.other W71 (Or.inl ne7)
  have F92 : Exa Z h70 o8 "[I" := F44.wr W71
  have F93 : Fa Z h70 o8 .int 2 (fun _ => (.int (0 : Int32))) := F45.other W71 ne15
  have F94 : Fld Z h70 o0 "com/example/torino/torino/AbsorbingChain" "entryMarks" "[I" (.ref o8) := F46.other W71 (Or.inl ne7)
  have F95 : Exa Z h70 o9 "[I" := F47.wr W71
  have F96 : Fa Z h70 o9 .int 2 (fun _ => (.int (0 : Int32))) := F48.other W71 ne16
  have F97 : Fld Z h70 o0 "com/example/torino/torino/AbsorbingChain" "entries" "[I" (.ref o9) := F49.other W71 (Or.inl ne7)
  have F98 : Exa Z h70 o10 "[I" := F50.wr W71
  have F99 : Fa Z h70 o10 .int 2 (fun _ => (.int (0 : Int32))) := F51.other W71 ne17
  have F100 : Exa Z h70 o12 "[D" := F52.wr W71
  have F101 : Fa Z h70 o12 .double 2 (fun _ => (.double (0 : UInt64))) := F53.other W71 ne18
  have F102 : Exa Z h70 o14 "[I" := F54.wr W71
  have F103 : Fa Z h70 o14 .int 2 (fun _ => (.int (0 : Int32))) := F55.other W71 ne19
  have F104 : Exa Z h70 o11 "[I" := F56.wr W71
  have F105 : Fa Z h70 o11 .int 2 (fun _ => (.int (0 : Int32))) := F57.other W71 ne20
  have F106 : FaA Z h70 o3 .int "[I" 2 (up (up (fun _ => .null) 0 (.ref o10)) 1 (.ref o11)) := F58.other W71 ne10
  have F107 : Exa Z h70 o13 "[D" := F59.wr W71
  have F108 : Fa Z h70 o13 .double 2 (fun _ => (.double (0 : UInt64))) := F60.other W71 ne21
  have F109 : FaA Z h70 o4 .double "[D" 2 (up (up (fun _ => .null) 0 (.ref o12)) 1 (.ref o13)) := F61.other W71 ne11
  have F110 : Exa Z h70 o15 "[I" := F62.wr W71
  have F111 : Fa Z h70 o15 .int 2 (fun _ => (.int (0 : Int32))) := F63.other W71 ne22
  have F112 : FaA Z h70 o6 .int "[I" 2 (up (up (fun _ => .null) 0 (.ref o14)) 1 (.ref o15)) := F64.other W71 ne13
  have F113 : Fa Z h70 o1 .double 2 (up (up (fun _ => (.double (0 : UInt64))) 0 (.double z0)) 1 (.double z1)) := F65.other W71 ne8
  have F114 : Fa Z h70 o2 .double 2 (up (up (fun _ => (.double (0 : UInt64))) 0 (.double z2)) 1 (.double z3)) := F66.other W71 ne9
  have F115 : Exa Z h70 b2 "[D" := A5.wr W71
  have sz116 : n0 ≤ h70.size := Nat.le_trans sz67 (Nat.le_of_eq W71.size.symm)
  have sy117 : h0.size ≤ h70.size := Nat.le_trans sy68 (Nat.le_of_eq W71.size.symm)
  have K118 := K69.wr W71 (Or.inr gz24)
  show Wk _ p l e _ s m _ below meth c n0 _ h70 1 2 (mkF m 40 #[.val (.ref o0), .val (.long (1000 : Int64)), .second, .val (.ref b2), .val (.long (0 : Int64)), .second, .val (.int (0 : Int32)), .unset, .unset, .unset, .unset] [])
  refine Wk.st (g' := (mkF m 41 #[.val (.ref o0), .val (.long (1000 : Int64)), .second, .val (.ref b2), .val (.long (0 : Int64)), .second, .val (.int (0 : Int32)), .unset, .unset, .unset, .unset] [(.int (0 : Int32))])) (fun X t q => XS.iconst X.here C.hx rfl (hb C.hby d4_40) q) ?_
  refine Wk.st (g' := (mkF m 43 #[.val (.ref o0), .val (.long (1000 : Int64)), .second, .val (.ref b2), .val (.long (0 : Int64)), .second, .val (.int (0 : Int32)), .val (.int (0 : Int32)), .unset, .unset, .unset] [])) (fun X t q => XS.istore X.here C.hx rfl (hb C.hby d4_41) rfl (l' := #[.val (.ref o0), .val (.long (1000 : Int64)), .second, .val (.ref b2), .val (.long (0 : Int64)), .second, .val (.int (0 : Int32)), .val (.int (0 : Int32)), .unset, .unset, .unset]) rfl q) ?_
  refine Wk.st (g' := (mkF m 45 #[.val (.ref o0), .val (.long (1000 : Int64)), .second, .val (.ref b2), .val (.long (0 : Int64)), .second, .val (.int (0 : Int32)), .val (.int (0 : Int32)), .unset, .unset, .unset] [(.int (0 : Int32))])) (fun X t q => XS.iload X.here C.hx rfl (hb C.hby d4_43) rfl q) ?_
  refine Wk.st (g' := (mkF m 46 #[.val (.ref o0), .val (.long (1000 : Int64)), .second, .val (.ref b2), .val (.long (0 : Int64)), .second, .val (.int (0 : Int32)), .val (.int (0 : Int32)), .unset, .unset, .unset] [(.ref o0), (.int (0 : Int32))])) (fun X t q => XS.aloadN X.here C.hx rfl (hb C.hby d4_45) rfl rfl q) ?_
  refine Wk.getF C (hw _ (List.mem_of_getElem? (i := 27) rfl)) Via.refl F86 d4_46 ?_
  show Wk _ p l e _ s m _ below meth c n0 _ h70 1 2 (mkF m 49 #[.val (.ref o0), .val (.long (1000 : Int64)), .second, .val (.ref b2), .val (.long (0 : Int64)), .second, .val (.int (0 : Int32)), .val (.int (0 : Int32)), .unset, .unset, .unset] [(.ref o5), (.int (0 : Int32))])
  refine Wk.st (g' := (mkF m 51 #[.val (.ref o0), .val (.long (1000 : Int64)), .second, .val (.ref b2), .val (.long (0 : Int64)), .second, .val (.int (0 : Int32)), .val (.int (0 : Int32)), .unset, .unset, .unset] [(.int (0 : Int32)), (.ref o5), (.int (0 : Int32))])) (fun X t q => XS.iload X.here C.hx rfl (hb C.hby d4_49) rfl q) ?_
  refine Wk.fLdI C F85 (i := 0) (by decide) (by decide) (by decide) (v := (.int (0 : Int32))) rfl d4_51 ?_
  show Wk _ p l e _ s m _ below meth c n0 _ h70 1 2 (mkF m 52 #[.val (.ref o0), .val (.long (1000 : Int64)), .second, .val (.ref b2), .val (.long (0 : Int64)), .second, .val (.int (0 : Int32)), .val (.int (0 : Int32)), .unset, .unset, .unset] [(.int (0 : Int32)), (.int (0 : Int32))])
  refine Wk.st (g' := (mkF m 78 #[.val (.ref o0), .val (.long (1000 : Int64)), .second, .val (.ref b2), .val (.long (0 : Int64)), .second, .val (.int (0 : Int32)), .val (.int (0 : Int32)), .unset, .unset, .unset] [])) (fun X t q => XS.icmpYes X.here C.hx rfl (pc0 := 52) (pc' := 78) rfl (hb C.hby d4_52) rfl (XT.ii_ge_t (by decide)) (by decide) (by decide) q) ?_
  refine Wk.st (g' := (mkF m 79 #[.val (.ref o0), .val (.long (1000 : Int64)), .second, .val (.ref b2), .val (.long (0 : Int64)), .second, .val (.int (0 : Int32)), .val (.int (0 : Int32)), .unset, .unset, .unset] [(.int (0 : Int32))])) (fun X t q => XS.iconst X.here C.hx rfl (hb C.hby d4_78) q) ?_
  refine Wk.st (g' := (mkF m 81 #[.val (.ref o0), .val (.long (1000 : Int64)), .second, .val (.ref b2), .val (.long (0 : Int64)), .second, .val (.int (0 : Int32)), .val (.int (0 : Int32)), .unset, .unset, .unset] [])) (fun X t q => XS.istore X.here C.hx rfl (hb C.hby d4_79) rfl (l' := #[.val (.ref o0), .val (.long (1000 : Int64)), .second, .val (.ref b2), .val (.long (0 : Int64)), .second, .val (.int (0 : Int32)), .val (.int (0 : Int32)), .unset, .unset, .unset]) rfl q) ?_
  refine Wk.st (g' := (mkF m 83 #[.val (.ref o0), .val (.long (1000 : Int64)), .second, .val (.ref b2), .val (.long (0 : Int64)), .second, .val (.int (0 : Int32)), .val (.int (0 : Int32)), .unset, .unset, .unset] [(.int (0 : Int32))])) (fun X t q => XS.iload X.here C.hx rfl (hb C.hby d4_81) rfl q) ?_
  refine Wk.st (g' := (mkF m 84 #[.val (.ref o0), .val (.long (1000 : Int64)), .second, .val (.ref b2), .val (.long (0 : Int64)), .second, .val (.int (0 : Int32)), .val (.int (0 : Int32)), .unset, .unset, .unset] [(.ref o0), (.int (0 : Int32))])) (fun X t q => XS.aloadN X.here C.hx rfl (hb C.hby d4_83) rfl rfl q) ?_
  refine Wk.getF C (hw _ (List.mem_of_getElem? (i := 31) rfl)) Via.refl F91 d4_84 ?_
  show Wk _ p l e _ s m _ below meth c n0 _ h70 1 2 (mkF m 87 #[.val (.ref o0), .val (.long (1000 : Int64)), .second, .val (.ref b2), .val (.long (0 : Int64)), .second, .val (.int (0 : Int32)), .val (.int (0 : Int32)), .unset, .unset, .unset] [(.ref o7), (.int (0 : Int32))])
  refine Wk.st (g' := (mkF m 89 #[.val (.ref o0), .val (.long (1000 : Int64)), .second, .val (.ref b2), .val (.long (0 : Int64)), .second, .val (.int (0 : Int32)), .val (.int (0 : Int32)), .unset, .unset, .unset] [(.int (0 : Int32)), (.ref o7), (.int (0 : Int32))])) (fun X t q => XS.iload X.here C.hx rfl (hb C.hby d4_87) rfl q) ?_
  refine Wk.fLdI C F90 (i := 0) (by decide) (by decide) (by decide) (v := (.int (0 : Int32))) rfl d4_89 ?_
  show Wk _ p l e _ s m _ below meth c n0 _ h70 1 2 (mkF m 90 #[.val (.ref o0), .val (.long (1000 : Int64)), .second, .val (.ref b2), .val (.long (0 : Int64)), .second, .val (.int (0 : Int32)), .val (.int (0 : Int32)), .unset, .unset, .unset] [(.int (0 : Int32)), (.int (0 : Int32))])
  refine Wk.st (g' := (mkF m 151 #[.val (.ref o0), .val (.long (1000 : Int64)), .second, .val (.ref b2), .val (.long (0 : Int64)), .second, .val (.int (0 : Int32)), .val (.int (0 : Int32)), .unset, .unset, .unset] [])) (fun X t q => XS.icmpYes X.here C.hx rfl (pc0 := 90) (pc' := 151) rfl (hb C.hby d4_90) rfl (XT.ii_ge_t (by decide)) (by decide) (by decide) q) ?_
  refine Wk.st (g' := (mkF m 154 #[.val (.ref o0), .val (.long (1000 : Int64)), .second, .val (.ref b2), .val (.long (0 : Int64)), .second, .val (.int (1 : Int32)), .val (.int (0 : Int32)), .unset, .unset, .unset] [])) (fun X t q => XS.iinc X.here C.hx rfl (hb C.hby d4_151) rfl (l' := #[.val (.ref o0), .val (.long (1000 : Int64)), .second, .val (.ref b2), .val (.long (0 : Int64)), .second, .val (.int (1 : Int32)), .val (.int (0 : Int32)), .unset, .unset, .unset]) rfl q) ?_
  refine Wk.st (g' := (mkF m 13 #[.val (.ref o0), .val (.long (1000 : Int64)), .second, .val (.ref b2), .val (.long (0 : Int64)), .second, .val (.int (1 : Int32)), .val (.int (0 : Int32)), .unset, .unset, .unset] [])) (fun X t q => XS.goto X.here C.hx rfl (pc0 := 154) (pc' := 13) rfl (hb C.hby d4_154) (by decide) (by decide) q) ?_
  refine Wk.st (g' := (mkF m 15 #[.val (.ref o0), .val (.long (1000 : Int64)), .second, .val (.ref b2), .val (.long (0 : Int64)), .second, .val (.int (1 : Int32)), .val (.int (0 : Int32)), .unset, .unset, .unset] [(.int (1 : Int32))])) (fun X t q => XS.iload X.here C.hx rfl (hb C.hby d4_13) rfl q) ?_
  refine Wk.st (g' := (mkF m 16 #[.val (.ref o0), .val (.long (1000 : Int64)), .second, .val (.ref b2), .val (.long (0 : Int64)), .second, .val (.int (1 : Int32)), .val (.int (0 : Int32)), .unset, .unset, .unset] [(.ref o0), (.int (1 : Int32))])) (fun X t q => XS.aloadN X.here C.hx rfl (hb C.hby d4_15) rfl rfl q) ?_
  refine Wk.getF C (hw _ (List.mem_of_getElem? (i := 11) rfl)) Via.refl F75 d4_16 ?_
  show Wk _ p l e _ s m _ below meth c n0 _ h70 1 2 (mkF m 19 #[.val (.ref o0), .val (.long (1000 : Int64)), .second, .val (.ref b2), .val (.long (0 : Int64)), .second, .val (.int (1 : Int32)), .val (.int (0 : Int32)), .unset, .unset, .unset] [(.int (2 : Int32)), (.int (1 : Int32))])
  refine Wk.st (g' := (mkF m 22 #[.val (.ref o0), .val (.long (1000 : Int64)), .second, .val (.ref b2), .val (.long (0 : Int64)), .second, .val (.int (1 : Int32)), .val (.int (0 : Int32)), .unset, .unset, .unset] [])) (fun X t q => XS.icmpNo X.here C.hx rfl (hb C.hby d4_19) rfl (XT.ii_ge_f (by decide)) q) ?_
  refine Wk.st (g' := (mkF m 24 #[.val (.ref o0), .val (.long (1000 : Int64)), .second, .val (.ref b2), .val (.long (0 : Int64)), .second, .val (.int (1 : Int32)), .val (.int (0 : Int32)), .unset, .unset, .unset] [(.long (0 : Int64))])) (fun X t q => XS.lload X.here C.hx rfl (hb C.hby d4_22) rfl q) ?_
  refine Wk.st (g' := (mkF m 25 #[.val (.ref o0), .val (.long (1000 : Int64)), .second, .val (.ref b2), .val (.long (0 : Int64)), .second, .val (.int (1 : Int32)), .val (.int (0 : Int32)), .unset, .unset, .unset] [(.long (1000 : Int64)), (.long (0 : Int64))])) (fun X t q => XS.lloadN X.here C.hx rfl (hb C.hby d4_24) rfl q) ?_
  refine Wk.st (g' := (mkF m 26 #[.val (.ref o0), .val (.long (1000 : Int64)), .second, .val (.ref b2), .val (.long (0 : Int64)), .second, .val (.int (1 : Int32)), .val (.int (0 : Int32)), .unset, .unset, .unset] [(.int (XT.cmpL (0 : Int64) (1000 : Int64)))])) (fun X t q => XT.lcmp X.here C.hx rfl (hb C.hby d4_25) rfl q) ?_
  refine Wk.st (g' := (mkF m 29 #[.val (.ref o0), .val (.long (1000 : Int64)), .second, .val (.ref b2), .val (.long (0 : Int64)), .second, .val (.int (1 : Int32)), .val (.int (0 : Int32)), .unset, .unset, .unset] [])) (fun X t q => XS.ifNo X.here C.hx rfl (hb C.hby d4_26) rfl (XT.ll_gt_f (by decide)) q) ?_
  refine Wk.st (g' := (mkF m 30 #[.val (.ref o0), .val (.long (1000 : Int64)), .second, .val (.ref b2), .val (.long (0 : Int64)), .second, .val (.int (1 : Int32)), .val (.int (0 : Int32)), .unset, .unset, .unset] [(.ref b2)])) (fun X t q => XS.aloadN X.here C.hx rfl (hb C.hby d4_29) rfl rfl q) ?_
  refine Wk.st (g' := (mkF m 32 #[.val (.ref o0), .val (.long (1000 : Int64)), .second, .val (.ref b2), .val (.long (0 : Int64)), .second, .val (.int (1 : Int32)), .val (.int (0 : Int32)), .unset, .unset, .unset] [(.int (1 : Int32)), (.ref b2)])) (fun X t q => XS.iload X.here C.hx rfl (hb C.hby d4_30) rfl q) ?_
  refine Wk.st (g' := (mkF m 33 #[.val (.ref o0), .val (.long (1000 : Int64)), .second, .val (.ref b2), .val (.long (0 : Int64)), .second, .val (.int (1 : Int32)), .val (.int (0 : Int32)), .unset, .unset, .unset] [(.ref o0), (.int (1 : Int32)), (.ref b2)])) (fun X t q => XS.aloadN X.here C.hx rfl (hb C.hby d4_32) rfl rfl q) ?_
  refine Wk.getF C (hw _ (List.mem_of_getElem? (i := 14) rfl)) Via.refl F77 d4_33 ?_
  show Wk _ p l e _ s m _ below meth c n0 _ h70 1 2 (mkF m 36 #[.val (.ref o0), .val (.long (1000 : Int64)), .second, .val (.ref b2), .val (.long (0 : Int64)), .second, .val (.int (1 : Int32)), .val (.int (0 : Int32)), .unset, .unset, .unset] [(.ref o1), (.int (1 : Int32)), (.ref b2)])
  refine Wk.st (g' := (mkF m 38 #[.val (.ref o0), .val (.long (1000 : Int64)), .second, .val (.ref b2), .val (.long (0 : Int64)), .second, .val (.int (1 : Int32)), .val (.int (0 : Int32)), .unset, .unset, .unset] [(.int (1 : Int32)), (.ref o1), (.int (1 : Int32)), (.ref b2)])) (fun X t q => XS.iload X.here C.hx rfl (hb C.hby d4_36) rfl q) ?_
  refine Wk.fLdD C F113 (i := 1) (by decide) (by decide) (by decide) (v := (.double z1)) (by simp [up]) d4_38 ?_
  show Wk _ p l e _ s m _ below meth c n0 _ h70 1 2 (mkF m 39 #[.val (.ref o0), .val (.long (1000 : Int64)), .second, .val (.ref b2), .val (.long (0 : Int64)), .second, .val (.int (1 : Int32)), .val (.int (0 : Int32)), .unset, .unset, .unset] [(.double z1), (.int (1 : Int32)), (.ref b2)])
  refine Wk.fStD C F72 (i := 1) (by decide) (by decide) (by decide) ge23 d4_39 ?_
  intro h119 W120 F121
  have F122 : Exa Z h119 o0 "com/example/torino/torino/AbsorbingChain" := F73.wr W120
  have F123 : Fld Z h119 o0 "com/example/torino/torino/AbsorbingChain" "markedRow" "I" (.int (-1 : Int32)) := F74.other W120 (Or.inl ne7)
  have F124 : Fld Z h119 o0 "com/example/torino/torino/AbsorbingChain" "size" "I" (.int (2 : Int32)) := F75.other W120 (Or.inl ne7)
  have F125 : Exa Z h119 o1 "[D" := F76.wr W120
  have F126 : Fld Z h119 o0 "com/example/torino/torino/AbsorbingChain" "exitProbabilities" "[D" (.ref o1) := F77.other W120 (Or.inl ne7)
  have F127 : Exa Z h119 o2 "[D" := F78.wr W120
  have F128 : Fld Z h119 o0 "com/example/torino/torino/AbsorbingChain" "exitValues" "[D" (.ref o2) := F79.other W120 (Or.inl ne7)
  have F129 : Exa Z h119 o3 "[[I" := F80.wr W120
  have F130 : Fld Z h119 o0 "com/example/torino/torino/AbsorbingChain" "nexts" "[[I" (.ref o3) := F81.other W120 (Or.inl ne7)
  have F131 : Exa Z h119 o4 "[[D" := F82.wr W120
  have F132 : Fld Z h119 o0 "com/example/torino/torino/AbsorbingChain" "probabilities" "[[D" (.ref o4) := F83.other W120 (Or.inl ne7)
  have F133 : Exa Z h119 o5 "[I" := F84.wr W120
  have F134 : Fa Z h119 o5 .int 2 (fun _ => (.int (0 : Int32))) := F85.other W120 ne12
  have F135 : Fld Z h119 o0 "com/example/torino/torino/AbsorbingChain" "lengths" "[I" (.ref o5) := F86.other W120 (Or.inl ne7)
  have F136 : Exa Z h119 o6 "[[I" := F87.wr W120
  have F137 : Fld Z h119 o0 "com/example/torino/torino/AbsorbingChain" "predecessors" "[[I" (.ref o6) := F88.other W120 (Or.inl ne7)
  have F138 : Exa Z h119 o7 "[I" := F89.wr W120
  have F139 : Fa Z h119 o7 .int 2 (fun _ => (.int (0 : Int32))) := F90.other W120 ne14
  have F140 : Fld Z h119 o0 "com/example/torino/torino/AbsorbingChain" "predecessorCounts" "[I" (.ref o7) := F91.other W120 (Or.inl ne7)
  have F141 : Exa Z h119 o8 "[I" := F92.wr W120
  have F142 : Fa Z h119 o8 .int 2 (fun _ => (.int (0 : Int32))) := F93.other W120 ne15
  have F143 : Fld Z h119 o0 "com/example/torino/torino/AbsorbingChain" "entryMarks" "[I" (.ref o8) := F94.other W120 (Or.inl ne7)
  have F144 : Exa Z h119 o9 "[I" := F95.wr W120
  have F145 : Fa Z h119 o9 .int 2 (fun _ => (.int (0 : Int32))) := F96.other W120 ne16
  have F146 : Fld Z h119 o0 "com/example/torino/torino/AbsorbingChain" "entries" "[I" (.ref o9) := F97.other W120 (Or.inl ne7)
  have F147 : Exa Z h119 o10 "[I" := F98.wr W120
  have F148 : Fa Z h119 o10 .int 2 (fun _ => (.int (0 : Int32))) := F99.other W120 ne17
  have F149 : Exa Z h119 o12 "[D" := F100.wr W120
  have F150 : Fa Z h119 o12 .double 2 (fun _ => (.double (0 : UInt64))) := F101.other W120 ne18
  have F151 : Exa Z h119 o14 "[I" := F102.wr W120
  have F152 : Fa Z h119 o14 .int 2 (fun _ => (.int (0 : Int32))) := F103.other W120 ne19
  have F153 : Exa Z h119 o11 "[I" := F104.wr W120
  have F154 : Fa Z h119 o11 .int 2 (fun _ => (.int (0 : Int32))) := F105.other W120 ne20
  have F155 : FaA Z h119 o3 .int "[I" 2 (up (up (fun _ => .null) 0 (.ref o10)) 1 (.ref o11)) := F106.other W120 ne10
  have F156 : Exa Z h119 o13 "[D" := F107.wr W120
  have F157 : Fa Z h119 o13 .double 2 (fun _ => (.double (0 : UInt64))) := F108.other W120 ne21
  have F158 : FaA Z h119 o4 .double "[D" 2 (up (up (fun _ => .null) 0 (.ref o12)) 1 (.ref o13)) := F109.other W120 ne11
  have F159 : Exa Z h119 o15 "[I" := F110.wr W120
  have F160 : Fa Z h119 o15 .int 2 (fun _ => (.int (0 : Int32))) := F111.other W120 ne22
  have F161 : FaA Z h119 o6 .int "[I" 2 (up (up (fun _ => .null) 0 (.ref o14)) 1 (.ref o15)) := F112.other W120 ne13
  have F162 : Fa Z h119 o1 .double 2 (up (up (fun _ => (.double (0 : UInt64))) 0 (.double z0)) 1 (.double z1)) := F113.other W120 ne8
  have F163 : Fa Z h119 o2 .double 2 (up (up (fun _ => (.double (0 : UInt64))) 0 (.double z2)) 1 (.double z3)) := F114.other W120 ne9
  have F164 : Exa Z h119 b2 "[D" := F115.wr W120
  have sz165 : n0 ≤ h119.size := Nat.le_trans sz116 (Nat.le_of_eq W120.size.symm)
  have sy166 : h0.size ≤ h119.size := Nat.le_trans sy117 (Nat.le_of_eq W120.size.symm)
  have K167 := K118.wr W120 (Or.inr gz24)
  show Wk _ p l e _ s m _ below meth c n0 _ h119 1 2 (mkF m 40 #[.val (.ref o0), .val (.long (1000 : Int64)), .second, .val (.ref b2), .val (.long (0 : Int64)), .second, .val (.int (1 : Int32)), .val (.int (0 : Int32)), .unset, .unset, .unset] [])
  refine Wk.st (g' := (mkF m 41 #[.val (.ref o0), .val (.long (1000 : Int64)), .second, .val (.ref b2), .val (.long (0 : Int64)), .second, .val (.int (1 : Int32)), .val (.int (0 : Int32)), .unset, .unset, .unset] [(.int (0 : Int32))])) (fun X t q => XS.iconst X.here C.hx rfl (hb C.hby d4_40) q) ?_
  refine Wk.st (g' := (mkF m 43 #[.val (.ref o0), .val (.long (1000 : Int64)), .second, .val (.ref b2), .val (.long (0 : Int64)), .second, .val (.int (1 : Int32)), .val (.int (0 : Int32)), .unset, .unset, .unset] [])) (fun X t q => XS.istore X.here C.hx rfl (hb C.hby d4_41) rfl (l' := #[.val (.ref o0), .val (.long (1000 : Int64)), .second, .val (.ref b2), .val (.long (0 : Int64)), .second, .val (.int (1 : Int32)), .val (.int (0 : Int32)), .unset, .unset, .unset]) rfl q) ?_
  refine Wk.st (g' := (mkF m 45 #[.val (.ref o0), .val (.long (1000 : Int64)), .second, .val (.ref b2), .val (.long (0 : Int64)), .second, .val (.int (1 : Int32)), .val (.int (0 : Int32)), .unset, .unset, .unset] [(.int (0 : Int32))])) (fun X t q => XS.iload X.here C.hx rfl (hb C.hby d4_43) rfl q) ?_
  refine Wk.st (g' := (mkF m 46 #[.val (.ref o0), .val (.long (1000 : Int64)), .second, .val (.ref b2), .val (.long (0 : Int64)), .second, .val (.int (1 : Int32)), .val (.int (0 : Int32)), .unset, .unset, .unset] [(.ref o0), (.int (0 : Int32))])) (fun X t q => XS.aloadN X.here C.hx rfl (hb C.hby d4_45) rfl rfl q) ?_
  refine Wk.getF C (hw _ (List.mem_of_getElem? (i := 27) rfl)) Via.refl F135 d4_46 ?_
  show Wk _ p l e _ s m _ below meth c n0 _ h119 1 2 (mkF m 49 #[.val (.ref o0), .val (.long (1000 : Int64)), .second, .val (.ref b2), .val (.long (0 : Int64)), .second, .val (.int (1 : Int32)), .val (.int (0 : Int32)), .unset, .unset, .unset] [(.ref o5), (.int (0 : Int32))])
  refine Wk.st (g' := (mkF m 51 #[.val (.ref o0), .val (.long (1000 : Int64)), .second, .val (.ref b2), .val (.long (0 : Int64)), .second, .val (.int (1 : Int32)), .val (.int (0 : Int32)), .unset, .unset, .unset] [(.int (1 : Int32)), (.ref o5), (.int (0 : Int32))])) (fun X t q => XS.iload X.here C.hx rfl (hb C.hby d4_49) rfl q) ?_
  refine Wk.fLdI C F134 (i := 1) (by decide) (by decide) (by decide) (v := (.int (0 : Int32))) rfl d4_51 ?_
  show Wk _ p l e _ s m _ below meth c n0 _ h119 1 2 (mkF m 52 #[.val (.ref o0), .val (.long (1000 : Int64)), .second, .val (.ref b2), .val (.long (0 : Int64)), .second, .val (.int (1 : Int32)), .val (.int (0 : Int32)), .unset, .unset, .unset] [(.int (0 : Int32)), (.int (0 : Int32))])
  refine Wk.st (g' := (mkF m 78 #[.val (.ref o0), .val (.long (1000 : Int64)), .second, .val (.ref b2), .val (.long (0 : Int64)), .second, .val (.int (1 : Int32)), .val (.int (0 : Int32)), .unset, .unset, .unset] [])) (fun X t q => XS.icmpYes X.here C.hx rfl (pc0 := 52) (pc' := 78) rfl (hb C.hby d4_52) rfl (XT.ii_ge_t (by decide)) (by decide) (by decide) q) ?_
  refine Wk.st (g' := (mkF m 79 #[.val (.ref o0), .val (.long (1000 : Int64)), .second, .val (.ref b2), .val (.long (0 : Int64)), .second, .val (.int (1 : Int32)), .val (.int (0 : Int32)), .unset, .unset, .unset] [(.int (0 : Int32))])) (fun X t q => XS.iconst X.here C.hx rfl (hb C.hby d4_78) q) ?_
  refine Wk.st (g' := (mkF m 81 #[.val (.ref o0), .val (.long (1000 : Int64)), .second, .val (.ref b2), .val (.long (0 : Int64)), .second, .val (.int (1 : Int32)), .val (.int (0 : Int32)), .unset, .unset, .unset] [])) (fun X t q => XS.istore X.here C.hx rfl (hb C.hby d4_79) rfl (l' := #[.val (.ref o0), .val (.long (1000 : Int64)), .second, .val (.ref b2), .val (.long (0 : Int64)), .second, .val (.int (1 : Int32)), .val (.int (0 : Int32)), .unset, .unset, .unset]) rfl q) ?_
  refine Wk.st (g' := (mkF m 83 #[.val (.ref o0), .val (.long (1000 : Int64)), .second, .val (.ref b2), .val (.long (0 : Int64)), .second, .val (.int (1 : Int32)), .val (.int (0 : Int32)), .unset, .unset, .unset] [(.int (0 : Int32))])) (fun X t q => XS.iload X.here C.hx rfl (hb C.hby d4_81) rfl q) ?_
  refine Wk.st (g' := (mkF m 84 #[.val (.ref o0), .val (.long (1000 : Int64)), .second, .val (.ref b2), .val (.long (0 : Int64)), .second, .val (.int (1 : Int32)), .val (.int (0 : Int32)), .unset, .unset, .unset] [(.ref o0), (.int (0 : Int32))])) (fun X t q => XS.aloadN X.here C.hx rfl (hb C.hby d4_83) rfl rfl q) ?_
  refine Wk.getF C (hw _ (List.mem_of_getElem? (i := 31) rfl)) Via.refl F140 d4_84 ?_
  show Wk _ p l e _ s m _ below meth c n0 _ h119 1 2 (mkF m 87 #[.val (.ref o0), .val (.long (1000 : Int64)), .second, .val (.ref b2), .val (.long (0 : Int64)), .second, .val (.int (1 : Int32)), .val (.int (0 : Int32)), .unset, .unset, .unset] [(.ref o7), (.int (0 : Int32))])
  refine Wk.st (g' := (mkF m 89 #[.val (.ref o0), .val (.long (1000 : Int64)), .second, .val (.ref b2), .val (.long (0 : Int64)), .second, .val (.int (1 : Int32)), .val (.int (0 : Int32)), .unset, .unset, .unset] [(.int (1 : Int32)), (.ref o7), (.int (0 : Int32))])) (fun X t q => XS.iload X.here C.hx rfl (hb C.hby d4_87) rfl q) ?_
  refine Wk.fLdI C F139 (i := 1) (by decide) (by decide) (by decide) (v := (.int (0 : Int32))) rfl d4_89 ?_
  show Wk _ p l e _ s m _ below meth c n0 _ h119 1 2 (mkF m 90 #[.val (.ref o0), .val (.long (1000 : Int64)), .second, .val (.ref b2), .val (.long (0 : Int64)), .second, .val (.int (1 : Int32)), .val (.int (0 : Int32)), .unset, .unset, .unset] [(.int (0 : Int32)), (.int (0 : Int32))])
  refine Wk.st (g' := (mkF m 151 #[.val (.ref o0), .val (.long (1000 : Int64)), .second, .val (.ref b2), .val (.long (0 : Int64)), .second, .val (.int (1 : Int32)), .val (.int (0 : Int32)), .unset, .unset, .unset] [])) (fun X t q => XS.icmpYes X.here C.hx rfl (pc0 := 90) (pc' := 151) rfl (hb C.hby d4_90) rfl (XT.ii_ge_t (by decide)) (by decide) (by decide) q) ?_
  refine Wk.st (g' := (mkF m 154 #[.val (.ref o0), .val (.long (1000 : Int64)), .second, .val (.ref b2), .val (.long (0 : Int64)), .second, .val (.int (2 : Int32)), .val (.int (0 : Int32)), .unset, .unset, .unset] [])) (fun X t q => XS.iinc X.here C.hx rfl (hb C.hby d4_151) rfl (l' := #[.val (.ref o0), .val (.long (1000 : Int64)), .second, .val (.ref b2), .val (.long (0 : Int64)), .second, .val (.int (2 : Int32)), .val (.int (0 : Int32)), .unset, .unset, .unset]) rfl q) ?_
  refine Wk.st (g' := (mkF m 13 #[.val (.ref o0), .val (.long (1000 : Int64)), .second, .val (.ref b2), .val (.long (0 : Int64)), .second, .val (.int (2 : Int32)), .val (.int (0 : Int32)), .unset, .unset, .unset] [])) (fun X t q => XS.goto X.here C.hx rfl (pc0 := 154) (pc' := 13) rfl (hb C.hby d4_154) (by decide) (by decide) q) ?_
  refine Wk.st (g' := (mkF m 15 #[.val (.ref o0), .val (.long (1000 : Int64)), .second, .val (.ref b2), .val (.long (0 : Int64)), .second, .val (.int (2 : Int32)), .val (.int (0 : Int32)), .unset, .unset, .unset] [(.int (2 : Int32))])) (fun X t q => XS.iload X.here C.hx rfl (hb C.hby d4_13) rfl q) ?_
  refine Wk.st (g' := (mkF m 16 #[.val (.ref o0), .val (.long (1000 : Int64)), .second, .val (.ref b2), .val (.long (0 : Int64)), .second, .val (.int (2 : Int32)), .val (.int (0 : Int32)), .unset, .unset, .unset] [(.ref o0), (.int (2 : Int32))])) (fun X t q => XS.aloadN X.here C.hx rfl (hb C.hby d4_15) rfl rfl q) ?_
  refine Wk.getF C (hw _ (List.mem_of_getElem? (i := 11) rfl)) Via.refl F124 d4_16 ?_
  show Wk _ p l e _ s m _ below meth c n0 _ h119 1 2 (mkF m 19 #[.val (.ref o0), .val (.long (1000 : Int64)), .second, .val (.ref b2), .val (.long (0 : Int64)), .second, .val (.int (2 : Int32)), .val (.int (0 : Int32)), .unset, .unset, .unset] [(.int (2 : Int32)), (.int (2 : Int32))])
  refine Wk.st (g' := (mkF m 157 #[.val (.ref o0), .val (.long (1000 : Int64)), .second, .val (.ref b2), .val (.long (0 : Int64)), .second, .val (.int (2 : Int32)), .val (.int (0 : Int32)), .unset, .unset, .unset] [])) (fun X t q => XS.icmpYes X.here C.hx rfl (pc0 := 19) (pc' := 157) rfl (hb C.hby d4_19) rfl (XT.ii_ge_t (by decide)) (by decide) (by decide) q) ?_
  refine Wk.st (g' := (mkF m 159 #[.val (.ref o0), .val (.long (1000 : Int64)), .second, .val (.ref b2), .val (.long (0 : Int64)), .second, .val (.int (2 : Int32)), .val (.int (0 : Int32)), .unset, .unset, .unset] [(.long (0 : Int64))])) (fun X t q => XS.lload X.here C.hx rfl (hb C.hby d4_157) rfl q) ?_
  refine Wk.st (g' := (mkF m 160 #[.val (.ref o0), .val (.long (1000 : Int64)), .second, .val (.ref b2), .val (.long (0 : Int64)), .second, .val (.int (2 : Int32)), .val (.int (0 : Int32)), .unset, .unset, .unset] [(.long (1000 : Int64)), (.long (0 : Int64))])) (fun X t q => XS.lloadN X.here C.hx rfl (hb C.hby d4_159) rfl q) ?_
  refine Wk.st (g' := (mkF m 161 #[.val (.ref o0), .val (.long (1000 : Int64)), .second, .val (.ref b2), .val (.long (0 : Int64)), .second, .val (.int (2 : Int32)), .val (.int (0 : Int32)), .unset, .unset, .unset] [(.int (XT.cmpL (0 : Int64) (1000 : Int64)))])) (fun X t q => XT.lcmp X.here C.hx rfl (hb C.hby d4_160) rfl q) ?_
  refine Wk.st (g' := (mkF m 166 #[.val (.ref o0), .val (.long (1000 : Int64)), .second, .val (.ref b2), .val (.long (0 : Int64)), .second, .val (.int (2 : Int32)), .val (.int (0 : Int32)), .unset, .unset, .unset] [])) (fun X t q => XS.ifYes X.here C.hx rfl (pc0 := 161) (pc' := 166) rfl (hb C.hby d4_161) rfl (XT.ll_le_t (by decide)) (by decide) (by decide) q) ?_
  refine Wk.st (g' := (mkF m 167 #[.val (.ref o0), .val (.long (1000 : Int64)), .second, .val (.ref b2), .val (.long (0 : Int64)), .second, .val (.int (2 : Int32)), .val (.int (0 : Int32)), .unset, .unset, .unset] [(.ref o0)])) (fun X t q => XS.aloadN X.here C.hx rfl (hb C.hby d4_166) rfl rfl q) ?_
  refine Wk.getF C (hw _ (List.mem_of_getElem? (i := 11) rfl)) Via.refl F124 d4_167 ?_
  show Wk _ p l e _ s m _ below meth c n0 _ h119 1 2 (mkF m 170 #[.val (.ref o0), .val (.long (1000 : Int64)), .second, .val (.ref b2), .val (.long (0 : Int64)), .second, .val (.int (2 : Int32)), .val (.int (0 : Int32)), .unset, .unset, .unset] [(.int (2 : Int32))])
  refine Wk.fNewP C (hw _ (List.mem_of_getElem? (i := 13) rfl)) (ty := .double) (dv := (.double (0 : UInt64))) (N := 2) (ad := "[D") rfl rfl (by decide) (by decide) (by decide) (cap := 2) (by decide) (by decide) d4_170 (by decide) (by decide) ?_
  intro h168 b169 g170 E171 A172 F173
  have ne174 : o0 ≠ b169 := Nat.ne_of_lt (Nat.lt_of_lt_of_le F122.lt (Nat.le_of_eq g170.symm))
  have ne175 : o1 ≠ b169 := Nat.ne_of_lt (Nat.lt_of_lt_of_le F125.lt (Nat.le_of_eq g170.symm))
  have ne176 : o2 ≠ b169 := Nat.ne_of_lt (Nat.lt_of_lt_of_le F127.lt (Nat.le_of_eq g170.symm))
  have ne177 : o3 ≠ b169 := Nat.ne_of_lt (Nat.lt_of_lt_of_le F129.lt (Nat.le_of_eq g170.symm))
  have ne178 : o4 ≠ b169 := Nat.ne_of_lt (Nat.lt_of_lt_of_le F131.lt (Nat.le_of_eq g170.symm))
  have ne179 : o5 ≠ b169 := Nat.ne_of_lt (Nat.lt_of_lt_of_le F133.lt (Nat.le_of_eq g170.symm))
  have ne180 : o6 ≠ b169 := Nat.ne_of_lt (Nat.lt_of_lt_of_le F136.lt (Nat.le_of_eq g170.symm))
  have ne181 : o7 ≠ b169 := Nat.ne_of_lt (Nat.lt_of_lt_of_le F138.lt (Nat.le_of_eq g170.symm))
  have ne182 : o8 ≠ b169 := Nat.ne_of_lt (Nat.lt_of_lt_of_le F141.lt (Nat.le_of_eq g170.symm))
  have ne183 : o9 ≠ b169 := Nat.ne_of_lt (Nat.lt_of_lt_of_le F144.lt (Nat.le_of_eq g170.symm))
  have ne184 : o10 ≠ b169 := Nat.ne_of_lt (Nat.lt_of_lt_of_le F147.lt (Nat.le_of_eq g170.symm))
  have ne185 : o12 ≠ b169 := Nat.ne_of_lt (Nat.lt_of_lt_of_le F149.lt (Nat.le_of_eq g170.symm))
  have ne186 : o14 ≠ b169 := Nat.ne_of_lt (Nat.lt_of_lt_of_le F151.lt (Nat.le_of_eq g170.symm))
  have ne187 : o11 ≠ b169 := Nat.ne_of_lt (Nat.lt_of_lt_of_le F153.lt (Nat.le_of_eq g170.symm))
  have ne188 : o13 ≠ b169 := Nat.ne_of_lt (Nat.lt_of_lt_of_le F156.lt (Nat.le_of_eq g170.symm))
  have ne189 : o15 ≠ b169 := Nat.ne_of_lt (Nat.lt_of_lt_of_le F159.lt (Nat.le_of_eq g170.symm))
  have ne190 : b2 ≠ b169 := Nat.ne_of_lt (Nat.lt_of_lt_of_le F164.lt (Nat.le_of_eq g170.symm))
  have ge191 : n0 ≤ b169 := Nat.le_trans sz165 (Nat.le_of_eq g170.symm)
  have gz192 : h0.size ≤ b169 := Nat.le_trans sy166 (Nat.le_of_eq g170.symm)
  have F193 : Exa Z h168 o0 "com/example/torino/torino/AbsorbingChain" := F122.ext E171
  have F194 : Fld Z h168 o0 "com/example/torino/torino/AbsorbingChain" "markedRow" "I" (.int (-1 : Int32)) := F123.ext E171
  have F195 : Fld Z h168 o0 "com/example/torino/torino/AbsorbingChain" "size" "I" (.int (2 : Int32)) := F124.ext E171
  have F196 : Exa Z h168 o1 "[D" := F125.ext E171
  have F197 : Fld Z h168 o0 "com/example/torino/torino/AbsorbingChain" "exitProbabilities" "[D" (.ref o1) := F126.ext E171
  have F198 : Exa Z h168 o2 "[D" := F127.ext E171
  have F199 : Fld Z h168 o0 "com/example/torino/torino/AbsorbingChain" "exitValues" "[D" (.ref o2) := F128.ext E171
  have F200 : Exa Z h168 o3 "[[I" := F129.ext E171
  have F201 : Fld Z h168 o0 "com/example/torino/torino/AbsorbingChain" "nexts" "[[I" (.ref o3) := F130.ext E171
  have F202 : Exa Z h168 o4 "[[D" := F131.ext E171
  have F203 : Fld Z h168 o0 "com/example/torino/torino/AbsorbingChain" "probabilities" "[[D" (.ref o4) := F132.ext E171
  have F204 : Exa Z h168 o5 "[I" := F133.ext E171
  have F205 : Fa Z h168 o5 .int 2 (fun _ => (.int (0 : Int32))) := F134.ext E171
  have F206 : Fld Z h168 o0 "com/example/torino/torino/AbsorbingChain" "lengths" "[I" (.ref o5) := F135.ext E171
  have F207 : Exa Z h168 o6 "[[I" := F136.ext E171
  have F208 : Fld Z h168 o0 "com/example/torino/torino/AbsorbingChain" "predecessors" "[[I" (.ref o6) := F137.ext E171
  have F209 : Exa Z h168 o7 "[I" := F138.ext E171
  have F210 : Fa Z h168 o7 .int 2 (fun _ => (.int (0 : Int32))) := F139.ext E171
  have F211 : Fld Z h168 o0 "com/example/torino/torino/AbsorbingChain" "predecessorCounts" "[I" (.ref o7) := F140.ext E171
  have F212 : Exa Z h168 o8 "[I" := F141.ext E171
  have F213 : Fa Z h168 o8 .int 2 (fun _ => (.int (0 : Int32))) := F142.ext E171
  have F214 : Fld Z h168 o0 "com/example/torino/torino/AbsorbingChain" "entryMarks" "[I" (.ref o8) := F143.ext E171
  have F215 : Exa Z h168 o9 "[I" := F144.ext E171
  have F216 : Fa Z h168 o9 .int 2 (fun _ => (.int (0 : Int32))) := F145.ext E171
  have F217 : Fld Z h168 o0 "com/example/torino/torino/AbsorbingChain" "entries" "[I" (.ref o9) := F146.ext E171
  have F218 : Exa Z h168 o10 "[I" := F147.ext E171
  have F219 : Fa Z h168 o10 .int 2 (fun _ => (.int (0 : Int32))) := F148.ext E171
  have F220 : Exa Z h168 o12 "[D" := F149.ext E171
  have F221 : Fa Z h168 o12 .double 2 (fun _ => (.double (0 : UInt64))) := F150.ext E171
  have F222 : Exa Z h168 o14 "[I" := F151.ext E171
  have F223 : Fa Z h168 o14 .int 2 (fun _ => (.int (0 : Int32))) := F152.ext E171
  have F224 : Exa Z h168 o11 "[I" := F153.ext E171
  have F225 : Fa Z h168 o11 .int 2 (fun _ => (.int (0 : Int32))) := F154.ext E171
  have F226 : FaA Z h168 o3 .int "[I" 2 (up (up (fun _ => .null) 0 (.ref o10)) 1 (.ref o11)) := F155.ext E171
  have F227 : Exa Z h168 o13 "[D" := F156.ext E171
  have F228 : Fa Z h168 o13 .double 2 (fun _ => (.double (0 : UInt64))) := F157.ext E171
  have F229 : FaA Z h168 o4 .double "[D" 2 (up (up (fun _ => .null) 0 (.ref o12)) 1 (.ref o13)) := F158.ext E171
  have F230 : Exa Z h168 o15 "[I" := F159.ext E171
  have F231 : Fa Z h168 o15 .int 2 (fun _ => (.int (0 : Int32))) := F160.ext E171
  have F232 : FaA Z h168 o6 .int "[I" 2 (up (up (fun _ => .null) 0 (.ref o14)) 1 (.ref o15)) := F161.ext E171
  have F233 : Fa Z h168 o1 .double 2 (up (up (fun _ => (.double (0 : UInt64))) 0 (.double z0)) 1 (.double z1)) := F162.ext E171
  have F234 : Fa Z h168 o2 .double 2 (up (up (fun _ => (.double (0 : UInt64))) 0 (.double z2)) 1 (.double z3)) := F163.ext E171
  have F235 : Exa Z h168 b2 "[D" := F164.ext E171
  have F236 : Fa Z h168 b2 .double 2 (up (up (fun _ => (.double (0 : UInt64))) 0 (.double z0)) 1 (.double z1)) := F121.ext E171
  have sz237 : n0 ≤ h168.size := Nat.le_trans sz165 E171.1
  have sy238 : h0.size ≤ h168.size := Nat.le_trans sy166 E171.1
  have K239 := K167.ext E171
  show Wk _ p l e _ s m _ below meth c n0 _ h168 2 4 (mkF m 172 #[.val (.ref o0), .val (.long (1000 : Int64)), .second, .val (.ref b2), .val (.long (0 : Int64)), .second, .val (.int (2 : Int32)), .val (.int (0 : Int32)), .unset, .unset, .unset] [(.ref b169)])
  refine Wk.st (g' := (mkF m 174 #[.val (.ref o0), .val (.long (1000 : Int64)), .second, .val (.ref b2), .val (.long (0 : Int64)), .second, .val (.ref b169), .val (.int (0 : Int32)), .unset, .unset, .unset] [])) (fun X t q => XS.astore X.here C.hx rfl (hb C.hby d4_172) rfl rfl (l' := #[.val (.ref o0), .val (.long (1000 : Int64)), .second, .val (.ref b2), .val (.long (0 : Int64)), .second, .val (.ref b169), .val (.int (0 : Int32)), .unset, .unset, .unset]) rfl q) ?_
  refine Wk.st (g' := (mkF m 175 #[.val (.ref o0), .val (.long (1000 : Int64)), .second, .val (.ref b2), .val (.long (0 : Int64)), .second, .val (.ref b169), .val (.int (0 : Int32)), .unset, .unset, .unset] [(.ref o0)])) (fun X t q => XS.aloadN X.here C.hx rfl (hb C.hby d4_174) rfl rfl q) ?_
  refine Wk.getF C (hw _ (List.mem_of_getElem? (i := 11) rfl)) Via.refl F195 d4_175 ?_
  show Wk _ p l e _ s m _ below meth c n0 _ h168 2 4 (mkF m 178 #[.val (.ref o0), .val (.long (1000 : Int64)), .second, .val (.ref b2), .val (.long (0 : Int64)), .second, .val (.ref b169), .val (.int (0 : Int32)), .unset, .unset, .unset] [(.int (2 : Int32))])
  refine Wk.st (g' := (mkF m 179 #[.val (.ref o0), .val (.long (1000 : Int64)), .second, .val (.ref b2), .val (.long (0 : Int64)), .second, .val (.ref b169), .val (.int (0 : Int32)), .unset, .unset, .unset] [(.int (1 : Int32)), (.int (2 : Int32))])) (fun X t q => XS.iconst X.here C.hx rfl (hb C.hby d4_178) q) ?_
  refine Wk.st (g' := (mkF m 180 #[.val (.ref o0), .val (.long (1000 : Int64)), .second, .val (.ref b2), .val (.long (0 : Int64)), .second, .val (.ref b169), .val (.int (0 : Int32)), .unset, .unset, .unset] [(.int (1 : Int32))])) (fun X t q => XS.isub X.here C.hx rfl (hb C.hby d4_179) rfl q) ?_
  refine Wk.st (g' := (mkF m 182 #[.val (.ref o0), .val (.long (1000 : Int64)), .second, .val (.ref b2), .val (.long (0 : Int64)), .second, .val (.ref b169), .val (.int (1 : Int32)), .unset, .unset, .unset] [])) (fun X t q => XS.istore X.here C.hx rfl (hb C.hby d4_180) rfl (l' := #[.val (.ref o0), .val (.long (1000 : Int64)), .second, .val (.ref b2), .val (.long (0 : Int64)), .second, .val (.ref b169), .val (.int (1 : Int32)), .unset, .unset, .unset]) rfl q) ?_
  refine Wk.st (g' := (mkF m 184 #[.val (.ref o0), .val (.long (1000 : Int64)), .second, .val (.ref b2), .val (.long (0 : Int64)), .second, .val (.ref b169), .val (.int (1 : Int32)), .unset, .unset, .unset] [(.int (1 : Int32))])) (fun X t q => XS.iload X.here C.hx rfl (hb C.hby d4_182) rfl q) ?_
  refine Wk.st (g' := (mkF m 187 #[.val (.ref o0), .val (.long (1000 : Int64)), .second, .val (.ref b2), .val (.long (0 : Int64)), .second, .val (.ref b169), .val (.int (1 : Int32)), .unset, .unset, .unset] [])) (fun X t q => XS.ifNo X.here C.hx rfl (hb C.hby d4_184) rfl (XT.i0_lt_f (by decide)) q) ?_
  refine Wk.st (g' := (mkF m 188 #[.val (.ref o0), .val (.long (1000 : Int64)), .second, .val (.ref b2), .val (.long (0 : Int64)), .second, .val (.ref b169), .val (.int (1 : Int32)), .unset, .unset, .unset] [(.ref o0)])) (fun X t q => XS.aloadN X.here C.hx rfl (hb C.hby d4_187) rfl rfl q) ?_
  refine Wk.getF C (hw _ (List.mem_of_getElem? (i := 16) rfl)) Via.refl F199 d4_188 ?_
  show Wk _ p l e _ s m _ below meth c n0 _ h168 2 4 (mkF m 191 #[.val (.ref o0), .val (.long (1000 : Int64)), .second, .val (.ref b2), .val (.long (0 : Int64)), .second, .val (.ref b169), .val (.int (1 : Int32)), .unset, .unset, .unset] [(.ref o2)])
  refine Wk.st (g' := (mkF m 193 #[.val (.ref o0), .val (.long (1000 : Int64)), .second, .val (.ref b2), .val (.long (0 : Int64)), .second, .val (.ref b169), .val (.int (1 : Int32)), .unset, .unset, .unset] [(.int (1 : Int32)), (.ref o2)])) (fun X t q => XS.iload X.here C.hx rfl (hb C.hby d4_191) rfl q) ?_
  refine Wk.fLdD C F234 (i := 1) (by decide) (by decide) (by decide) (v := (.double z3)) (by simp [up]) d4_193 ?_
  show Wk _ p l e _ s m _ below meth c n0 _ h168 2 4 (mkF m 194 #[.val (.ref o0), .val (.long (1000 : Int64)), .second, .val (.ref b2), .val (.long (0 : Int64)), .second, .val (.ref b169), .val (.int (1 : Int32)), .unset, .unset, .unset] [(.double z3)])
  refine Wk.st (g' := (mkF m 196 #[.val (.ref o0), .val (.long (1000 : Int64)), .second, .val (.ref b2), .val (.long (0 : Int64)), .second, .val (.ref b169), .val (.int (1 : Int32)), .val (.double z3), .second, .unset] [])) (fun X t q => XS.dstore X.here C.hx rfl (hb C.hby d4_194) rfl (l' := #[.val (.ref o0), .val (.long (1000 : Int64)), .second, .val (.ref b2), .val (.long (0 : Int64)), .second, .val (.ref b169), .val (.int (1 : Int32)), .val (.double z3), .second, .unset]) rfl q) ?_
  refine Wk.st (g' := (mkF m 197 #[.val (.ref o0), .val (.long (1000 : Int64)), .second, .val (.ref b2), .val (.long (0 : Int64)), .second, .val (.ref b169), .val (.int (1 : Int32)), .val (.double z3), .second, .unset] [(.int (0 : Int32))])) (fun X t q => XS.iconst X.here C.hx rfl (hb C.hby d4_196) q) ?_
  refine Wk.st (g' := (mkF m 199 #[.val (.ref o0), .val (.long (1000 : Int64)), .second, .val (.ref b2), .val (.long (0 : Int64)), .second, .val (.ref b169), .val (.int (1 : Int32)), .val (.double z3), .second, .val (.int (0 : Int32))] [])) (fun X t q => XS.istore X.here C.hx rfl (hb C.hby d4_197) rfl (l' := #[.val (.ref o0), .val (.long (1000 : Int64)), .second, .val (.ref b2), .val (.long (0 : Int64)), .second, .val (.ref b169), .val (.int (1 : Int32)), .val (.double z3), .second, .val (.int (0 : Int32))]) rfl q) ?_
  refine Wk.st (g' := (mkF m 201 #[.val (.ref o0), .val (.long (1000 : Int64)), .second, .val (.ref b2), .val (.long (0 : Int64)), .second, .val (.ref b169), .val (.int (1 : Int32)), .val (.double z3), .second, .val (.int (0 : Int32))] [(.int (0 : Int32))])) (fun X t q => XS.iload X.here C.hx rfl (hb C.hby d4_199) rfl q) ?_
  refine Wk.st (g' := (mkF m 202 #[.val (.ref o0), .val (.long (1000 : Int64)), .second, .val (.ref b2), .val (.long (0 : Int64)), .second, .val (.ref b169), .val (.int (1 : Int32)), .val (.double z3), .second, .val (.int (0 : Int32))] [(.ref o0), (.int (0 : Int32))])) (fun X t q => XS.aloadN X.here C.hx rfl (hb C.hby d4_201) rfl rfl q) ?_
  refine Wk.getF C (hw _ (List.mem_of_getElem? (i := 27) rfl)) Via.refl F206 d4_202 ?_
  show Wk _ p l e _ s m _ below meth c n0 _ h168 2 4 (mkF m 205 #[.val (.ref o0), .val (.long (1000 : Int64)), .second, .val (.ref b2), .val (.long (0 : Int64)), .second, .val (.ref b169), .val (.int (1 : Int32)), .val (.double z3), .second, .val (.int (0 : Int32))] [(.ref o5), (.int (0 : Int32))])
  refine Wk.st (g' := (mkF m 207 #[.val (.ref o0), .val (.long (1000 : Int64)), .second, .val (.ref b2), .val (.long (0 : Int64)), .second, .val (.ref b169), .val (.int (1 : Int32)), .val (.double z3), .second, .val (.int (0 : Int32))] [(.int (1 : Int32)), (.ref o5), (.int (0 : Int32))])) (fun X t q => XS.iload X.here C.hx rfl (hb C.hby d4_205) rfl q) ?_
  refine Wk.fLdI C F205 (i := 1) (by decide) (by decide) (by decide) (v := (.int (0 : Int32))) rfl d4_207 ?_
  show Wk _ p l e _ s m _ below meth c n0 _ h168 2 4 (mkF m 208 #[.val (.ref o0), .val (.long (1000 : Int64)), .second, .val (.ref b2), .val (.long (0 : Int64)), .second, .val (.ref b169), .val (.int (1 : Int32)), .val (.double z3), .second, .val (.int (0 : Int32))] [(.int (0 : Int32)), (.int (0 : Int32))])
  refine Wk.st (g' := (mkF m 246 #[.val (.ref o0), .val (.long (1000 : Int64)), .second, .val (.ref b2), .val (.long (0 : Int64)), .second, .val (.ref b169), .val (.int (1 : Int32)), .val (.double z3), .second, .val (.int (0 : Int32))] [])) (fun X t q => XS.icmpYes X.here C.hx rfl (pc0 := 208) (pc' := 246) rfl (hb C.hby d4_208) rfl (XT.ii_ge_t (by decide)) (by decide) (by decide) q) ?_
  refine Wk.st (g' := (mkF m 248 #[.val (.ref o0), .val (.long (1000 : Int64)), .second, .val (.ref b2), .val (.long (0 : Int64)), .second, .val (.ref b169), .val (.int (1 : Int32)), .val (.double z3), .second, .val (.int (0 : Int32))] [(.ref b169)])) (fun X t q => XS.aload X.here C.hx rfl (hb C.hby d4_246) rfl rfl q) ?_
  refine Wk.st (g' := (mkF m 250 #[.val (.ref o0), .val (.long (1000 : Int64)), .second, .val (.ref b2), .val (.long (0 : Int64)), .second, .val (.ref b169), .val (.int (1 : Int32)), .val (.double z3), .second, .val (.int (0 : Int32))] [(.int (1 : Int32)), (.ref b169)])) (fun X t q => XS.iload X.here C.hx rfl (hb C.hby d4_248) rfl q) ?_
  refine Wk.st (g' := (mkF m 252 #[.val (.ref o0), .val (.long (1000 : Int64)), .second, .val (.ref b2), .val (.long (0 : Int64)), .second, .val (.ref b169), .val (.int (1 : Int32)), .val (.double z3), .second, .val (.int (0 : Int32))] [(.double z3), (.int (1 : Int32)), (.ref b169)])) (fun X t q => XS.dload X.here C.hx rfl (hb C.hby d4_250) rfl q) ?_
  refine Wk.st (g' := (mkF m 253 #[.val (.ref o0), .val (.long (1000 : Int64)), .second, .val (.ref b2), .val (.long (0 : Int64)), .second, .val (.ref b169), .val (.int (1 : Int32)), .val (.double z3), .second, .val (.int (0 : Int32))] [(.ref b2), (.double z3), (.int (1 : Int32)), (.ref b169)])) (fun X t q => XS.aloadN X.here C.hx rfl (hb C.hby d4_252) rfl rfl q) ?_
  refine Wk.st (g' := (mkF m 255 #[.val (.ref o0), .val (.long (1000 : Int64)), .second, .val (.ref b2), .val (.long (0 : Int64)), .second, .val (.ref b169), .val (.int (1 : Int32)), .val (.double z3), .second, .val (.int (0 : Int32))] [(.int (1 : Int32)), (.ref b2), (.double z3), (.int (1 : Int32)), (.ref b169)])) (fun X t q => XS.iload X.here C.hx rfl (hb C.hby d4_253) rfl q) ?_
  refine Wk.fLdD C F236 (i := 1) (by decide) (by decide) (by decide) (v := (.double z1)) (by simp [up]) d4_255 ?_
  show Wk _ p l e _ s m _ below meth c n0 _ h168 2 4 (mkF m 256 #[.val (.ref o0), .val (.long (1000 : Int64)), .second, .val (.ref b2), .val (.long (0 : Int64)), .second, .val (.ref b169), .val (.int (1 : Int32)), .val (.double z3), .second, .val (.int (0 : Int32))] [(.double z1), (.double z3), (.int (1 : Int32)), (.ref b169)])
  refine Wk.st (g' := (mkF m 257 #[.val (.ref o0), .val (.long (1000 : Int64)), .second, .val (.ref b2), .val (.long (0 : Int64)), .second, .val (.ref b169), .val (.int (1 : Int32)), .val (.double z3), .second, .val (.int (0 : Int32))] [(.double (FP.ddiv z3 z1)), (.int (1 : Int32)), (.ref b169)])) (fun X t q => XS.ddivS X.here C.hx rfl (hb C.hby d4_256) rfl nn_0 rfl q) ?_
  refine Wk.fStD C F173 (i := 1) (by decide) (by decide) (by decide) ge191 d4_257 ?_
  intro h240 W241 F242
  have F243 : Exa Z h240 o0 "com/example/torino/torino/AbsorbingChain" := F193.wr W241
  have F244 : Fld Z h240 o0 "com/example/torino/torino/AbsorbingChain" "markedRow" "I" (.int (-1 : Int32)) := F194.other W241 (Or.inl ne174)
  have F245 : Fld Z h240 o0 "com/example/torino/torino/AbsorbingChain" "size" "I" (.int (2 : Int32)) := F195.other W241 (Or.inl ne174)
  have F246 : Exa Z h240 o1 "[D" := F196.wr W241
  have F247 : Fld Z h240 o0 "com/example/torino/torino/AbsorbingChain" "exitProbabilities" "[D" (.ref o1) := F197.other W241 (Or.inl ne174)
  have F248 : Exa Z h240 o2 "[D" := F198.wr W241
  have F249 : Fld Z h240 o0 "com/example/torino/torino/AbsorbingChain" "exitValues" "[D" (.ref o2) := F199.other W241 (Or.inl ne174)
  have F250 : Exa Z h240 o3 "[[I" := F200.wr W241
  have F251 : Fld Z h240 o0 "com/example/torino/torino/AbsorbingChain" "nexts" "[[I" (.ref o3) := F201.other W241 (Or.inl ne174)
  have F252 : Exa Z h240 o4 "[[D" := F202.wr W241
  have F253 : Fld Z h240 o0 "com/example/torino/torino/AbsorbingChain" "probabilities" "[[D" (.ref o4) := F203.other W241 (Or.inl ne174)
  have F254 : Exa Z h240 o5 "[I" := F204.wr W241
  have F255 : Fa Z h240 o5 .int 2 (fun _ => (.int (0 : Int32))) := F205.other W241 ne179
  have F256 : Fld Z h240 o0 "com/example/torino/torino/AbsorbingChain" "lengths" "[I" (.ref o5) := F206.other W241 (Or.inl ne174)
  have F257 : Exa Z h240 o6 "[[I" := F207.wr W241
  have F258 : Fld Z h240 o0 "com/example/torino/torino/AbsorbingChain" "predecessors" "[[I" (.ref o6) := F208.other W241 (Or.inl ne174)
  have F259 : Exa Z h240 o7 "[I" := F209.wr W241
  have F260 : Fa Z h240 o7 .int 2 (fun _ => (.int (0 : Int32))) := F210.other W241 ne181
  have F261 : Fld Z h240 o0 "com/example/torino/torino/AbsorbingChain" "predecessorCounts" "[I" (.ref o7) := F211.other W241 (Or.inl ne174)
  have F262 : Exa Z h240 o8 "[I" := F212.wr W241
  have F263 : Fa Z h240 o8 .int 2 (fun _ => (.int (0 : Int32))) := F213.other W241 ne182
  have F264 : Fld Z h240 o0 "com/example/torino/torino/AbsorbingChain" "entryMarks" "[I" (.ref o8) := F214.other W241 (Or.inl ne174)
  have F265 : Exa Z h240 o9 "[I" := F215.wr W241
  have F266 : Fa Z h240 o9 .int 2 (fun _ => (.int (0 : Int32))) := F216.other W241 ne183
  have F267 : Fld Z h240 o0 "com/example/torino/torino/AbsorbingChain" "entries" "[I" (.ref o9) := F217.other W241 (Or.inl ne174)
  have F268 : Exa Z h240 o10 "[I" := F218.wr W241
  have F269 : Fa Z h240 o10 .int 2 (fun _ => (.int (0 : Int32))) := F219.other W241 ne184
  have F270 : Exa Z h240 o12 "[D" := F220.wr W241
  have F271 : Fa Z h240 o12 .double 2 (fun _ => (.double (0 : UInt64))) := F221.other W241 ne185
  have F272 : Exa Z h240 o14 "[I" := F222.wr W241
  have F273 : Fa Z h240 o14 .int 2 (fun _ => (.int (0 : Int32))) := F223.other W241 ne186
  have F274 : Exa Z h240 o11 "[I" := F224.wr W241
  have F275 : Fa Z h240 o11 .int 2 (fun _ => (.int (0 : Int32))) := F225.other W241 ne187
  have F276 : FaA Z h240 o3 .int "[I" 2 (up (up (fun _ => .null) 0 (.ref o10)) 1 (.ref o11)) := F226.other W241 ne177
  have F277 : Exa Z h240 o13 "[D" := F227.wr W241
  have F278 : Fa Z h240 o13 .double 2 (fun _ => (.double (0 : UInt64))) := F228.other W241 ne188
  have F279 : FaA Z h240 o4 .double "[D" 2 (up (up (fun _ => .null) 0 (.ref o12)) 1 (.ref o13)) := F229.other W241 ne178
  have F280 : Exa Z h240 o15 "[I" := F230.wr W241
  have F281 : Fa Z h240 o15 .int 2 (fun _ => (.int (0 : Int32))) := F231.other W241 ne189
  have F282 : FaA Z h240 o6 .int "[I" 2 (up (up (fun _ => .null) 0 (.ref o14)) 1 (.ref o15)) := F232.other W241 ne180
  have F283 : Fa Z h240 o1 .double 2 (up (up (fun _ => (.double (0 : UInt64))) 0 (.double z0)) 1 (.double z1)) := F233.other W241 ne175
  have F284 : Fa Z h240 o2 .double 2 (up (up (fun _ => (.double (0 : UInt64))) 0 (.double z2)) 1 (.double z3)) := F234.other W241 ne176
  have F285 : Exa Z h240 b2 "[D" := F235.wr W241
  have F286 : Fa Z h240 b2 .double 2 (up (up (fun _ => (.double (0 : UInt64))) 0 (.double z0)) 1 (.double z1)) := F236.other W241 ne190
  have F287 : Exa Z h240 b169 "[D" := A172.wr W241
  have sz288 : n0 ≤ h240.size := Nat.le_trans sz237 (Nat.le_of_eq W241.size.symm)
  have sy289 : h0.size ≤ h240.size := Nat.le_trans sy238 (Nat.le_of_eq W241.size.symm)
  have K290 := K239.wr W241 (Or.inr gz192)
  show Wk _ p l e _ s m _ below meth c n0 _ h240 2 4 (mkF m 258 #[.val (.ref o0), .val (.long (1000 : Int64)), .second, .val (.ref b2), .val (.long (0 : Int64)), .second, .val (.ref b169), .val (.int (1 : Int32)), .val (.double z3), .second, .val (.int (0 : Int32))] [])
  refine Wk.st (g' := (mkF m 261 #[.val (.ref o0), .val (.long (1000 : Int64)), .second, .val (.ref b2), .val (.long (0 : Int64)), .second, .val (.ref b169), .val (.int (0 : Int32)), .val (.double z3), .second, .val (.int (0 : Int32))] [])) (fun X t q => XS.iinc X.here C.hx rfl (hb C.hby d4_258) rfl (l' := #[.val (.ref o0), .val (.long (1000 : Int64)), .second, .val (.ref b2), .val (.long (0 : Int64)), .second, .val (.ref b169), .val (.int (0 : Int32)), .val (.double z3), .second, .val (.int (0 : Int32))]) rfl q) ?_
  refine Wk.st (g' := (mkF m 182 #[.val (.ref o0), .val (.long (1000 : Int64)), .second, .val (.ref b2), .val (.long (0 : Int64)), .second, .val (.ref b169), .val (.int (0 : Int32)), .val (.double z3), .second, .val (.int (0 : Int32))] [])) (fun X t q => XS.goto X.here C.hx rfl (pc0 := 261) (pc' := 182) rfl (hb C.hby d4_261) (by decide) (by decide) q) ?_
  refine Wk.st (g' := (mkF m 184 #[.val (.ref o0), .val (.long (1000 : Int64)), .second, .val (.ref b2), .val (.long (0 : Int64)), .second, .val (.ref b169), .val (.int (0 : Int32)), .val (.double z3), .second, .val (.int (0 : Int32))] [(.int (0 : Int32))])) (fun X t q => XS.iload X.here C.hx rfl (hb C.hby d4_182) rfl q) ?_
  refine Wk.st (g' := (mkF m 187 #[.val (.ref o0), .val (.long (1000 : Int64)), .second, .val (.ref b2), .val (.long (0 : Int64)), .second, .val (.ref b169), .val (.int (0 : Int32)), .val (.double z3), .second, .val (.int (0 : Int32))] [])) (fun X t q => XS.ifNo X.here C.hx rfl (hb C.hby d4_184) rfl (XT.i0_lt_f (by decide)) q) ?_
  refine Wk.st (g' := (mkF m 188 #[.val (.ref o0), .val (.long (1000 : Int64)), .second, .val (.ref b2), .val (.long (0 : Int64)), .second, .val (.ref b169), .val (.int (0 : Int32)), .val (.double z3), .second, .val (.int (0 : Int32))] [(.ref o0)])) (fun X t q => XS.aloadN X.here C.hx rfl (hb C.hby d4_187) rfl rfl q) ?_
  refine Wk.getF C (hw _ (List.mem_of_getElem? (i := 16) rfl)) Via.refl F249 d4_188 ?_
  show Wk _ p l e _ s m _ below meth c n0 _ h240 2 4 (mkF m 191 #[.val (.ref o0), .val (.long (1000 : Int64)), .second, .val (.ref b2), .val (.long (0 : Int64)), .second, .val (.ref b169), .val (.int (0 : Int32)), .val (.double z3), .second, .val (.int (0 : Int32))] [(.ref o2)])
  refine Wk.st (g' := (mkF m 193 #[.val (.ref o0), .val (.long (1000 : Int64)), .second, .val (.ref b2), .val (.long (0 : Int64)), .second, .val (.ref b169), .val (.int (0 : Int32)), .val (.double z3), .second, .val (.int (0 : Int32))] [(.int (0 : Int32)), (.ref o2)])) (fun X t q => XS.iload X.here C.hx rfl (hb C.hby d4_191) rfl q) ?_
  refine Wk.fLdD C F284 (i := 0) (by decide) (by decide) (by decide) (v := (.double z2)) (by simp [up]) d4_193 ?_
  show Wk _ p l e _ s m _ below meth c n0 _ h240 2 4 (mkF m 194 #[.val (.ref o0), .val (.long (1000 : Int64)), .second, .val (.ref b2), .val (.long (0 : Int64)), .second, .val (.ref b169), .val (.int (0 : Int32)), .val (.double z3), .second, .val (.int (0 : Int32))] [(.double z2)])
  refine Wk.st (g' := (mkF m 196 #[.val (.ref o0), .val (.long (1000 : Int64)), .second, .val (.ref b2), .val (.long (0 : Int64)), .second, .val (.ref b169), .val (.int (0 : Int32)), .val (.double z2), .second, .val (.int (0 : Int32))] [])) (fun X t q => XS.dstore X.here C.hx rfl (hb C.hby d4_194) rfl (l' := #[.val (.ref o0), .val (.long (1000 : Int64)), .second, .val (.ref b2), .val (.long (0 : Int64)), .second, .val (.ref b169), .val (.int (0 : Int32)), .val (.double z2), .second, .val (.int (0 : Int32))]) rfl q) ?_
  refine Wk.st (g' := (mkF m 197 #[.val (.ref o0), .val (.long (1000 : Int64)), .second, .val (.ref b2), .val (.long (0 : Int64)), .second, .val (.ref b169), .val (.int (0 : Int32)), .val (.double z2), .second, .val (.int (0 : Int32))] [(.int (0 : Int32))])) (fun X t q => XS.iconst X.here C.hx rfl (hb C.hby d4_196) q) ?_
  refine Wk.st (g' := (mkF m 199 #[.val (.ref o0), .val (.long (1000 : Int64)), .second, .val (.ref b2), .val (.long (0 : Int64)), .second, .val (.ref b169), .val (.int (0 : Int32)), .val (.double z2), .second, .val (.int (0 : Int32))] [])) (fun X t q => XS.istore X.here C.hx rfl (hb C.hby d4_197) rfl (l' := #[.val (.ref o0), .val (.long (1000 : Int64)), .second, .val (.ref b2), .val (.long (0 : Int64)), .second, .val (.ref b169), .val (.int (0 : Int32)), .val (.double z2), .second, .val (.int (0 : Int32))]) rfl q) ?_
  refine Wk.st (g' := (mkF m 201 #[.val (.ref o0), .val (.long (1000 : Int64)), .second, .val (.ref b2), .val (.long (0 : Int64)), .second, .val (.ref b169), .val (.int (0 : Int32)), .val (.double z2), .second, .val (.int (0 : Int32))] [(.int (0 : Int32))])) (fun X t q => XS.iload X.here C.hx rfl (hb C.hby d4_199) rfl q) ?_
  refine Wk.st (g' := (mkF m 202 #[.val (.ref o0), .val (.long (1000 : Int64)), .second, .val (.ref b2), .val (.long (0 : Int64)), .second, .val (.ref b169), .val (.int (0 : Int32)), .val (.double z2), .second, .val (.int (0 : Int32))] [(.ref o0), (.int (0 : Int32))])) (fun X t q => XS.aloadN X.here C.hx rfl (hb C.hby d4_201) rfl rfl q) ?_
  refine Wk.getF C (hw _ (List.mem_of_getElem? (i := 27) rfl)) Via.refl F256 d4_202 ?_
  show Wk _ p l e _ s m _ below meth c n0 _ h240 2 4 (mkF m 205 #[.val (.ref o0), .val (.long (1000 : Int64)), .second, .val (.ref b2), .val (.long (0 : Int64)), .second, .val (.ref b169), .val (.int (0 : Int32)), .val (.double z2), .second, .val (.int (0 : Int32))] [(.ref o5), (.int (0 : Int32))])
  refine Wk.st (g' := (mkF m 207 #[.val (.ref o0), .val (.long (1000 : Int64)), .second, .val (.ref b2), .val (.long (0 : Int64)), .second, .val (.ref b169), .val (.int (0 : Int32)), .val (.double z2), .second, .val (.int (0 : Int32))] [(.int (0 : Int32)), (.ref o5), (.int (0 : Int32))])) (fun X t q => XS.iload X.here C.hx rfl (hb C.hby d4_205) rfl q) ?_
  refine Wk.fLdI C F255 (i := 0) (by decide) (by decide) (by decide) (v := (.int (0 : Int32))) rfl d4_207 ?_
  show Wk _ p l e _ s m _ below meth c n0 _ h240 2 4 (mkF m 208 #[.val (.ref o0), .val (.long (1000 : Int64)), .second, .val (.ref b2), .val (.long (0 : Int64)), .second, .val (.ref b169), .val (.int (0 : Int32)), .val (.double z2), .second, .val (.int (0 : Int32))] [(.int (0 : Int32)), (.int (0 : Int32))])
  refine Wk.st (g' := (mkF m 246 #[.val (.ref o0), .val (.long (1000 : Int64)), .second, .val (.ref b2), .val (.long (0 : Int64)), .second, .val (.ref b169), .val (.int (0 : Int32)), .val (.double z2), .second, .val (.int (0 : Int32))] [])) (fun X t q => XS.icmpYes X.here C.hx rfl (pc0 := 208) (pc' := 246) rfl (hb C.hby d4_208) rfl (XT.ii_ge_t (by decide)) (by decide) (by decide) q) ?_
  refine Wk.st (g' := (mkF m 248 #[.val (.ref o0), .val (.long (1000 : Int64)), .second, .val (.ref b2), .val (.long (0 : Int64)), .second, .val (.ref b169), .val (.int (0 : Int32)), .val (.double z2), .second, .val (.int (0 : Int32))] [(.ref b169)])) (fun X t q => XS.aload X.here C.hx rfl (hb C.hby d4_246) rfl rfl q) ?_
  refine Wk.st (g' := (mkF m 250 #[.val (.ref o0), .val (.long (1000 : Int64)), .second, .val (.ref b2), .val (.long (0 : Int64)), .second, .val (.ref b169), .val (.int (0 : Int32)), .val (.double z2), .second, .val (.int (0 : Int32))] [(.int (0 : Int32)), (.ref b169)])) (fun X t q => XS.iload X.here C.hx rfl (hb C.hby d4_248) rfl q) ?_
  refine Wk.st (g' := (mkF m 252 #[.val (.ref o0), .val (.long (1000 : Int64)), .second, .val (.ref b2), .val (.long (0 : Int64)), .second, .val (.ref b169), .val (.int (0 : Int32)), .val (.double z2), .second, .val (.int (0 : Int32))] [(.double z2), (.int (0 : Int32)), (.ref b169)])) (fun X t q => XS.dload X.here C.hx rfl (hb C.hby d4_250) rfl q) ?_
  refine Wk.st (g' := (mkF m 253 #[.val (.ref o0), .val (.long (1000 : Int64)), .second, .val (.ref b2), .val (.long (0 : Int64)), .second, .val (.ref b169), .val (.int (0 : Int32)), .val (.double z2), .second, .val (.int (0 : Int32))] [(.ref b2), (.double z2), (.int (0 : Int32)), (.ref b169)])) (fun X t q => XS.aloadN X.here C.hx rfl (hb C.hby d4_252) rfl rfl q) ?_
  refine Wk.st (g' := (mkF m 255 #[.val (.ref o0), .val (.long (1000 : Int64)), .second, .val (.ref b2), .val (.long (0 : Int64)), .second, .val (.ref b169), .val (.int (0 : Int32)), .val (.double z2), .second, .val (.int (0 : Int32))] [(.int (0 : Int32)), (.ref b2), (.double z2), (.int (0 : Int32)), (.ref b169)])) (fun X t q => XS.iload X.here C.hx rfl (hb C.hby d4_253) rfl q) ?_
  refine Wk.fLdD C F286 (i := 0) (by decide) (by decide) (by decide) (v := (.double z0)) (by simp [up]) d4_255 ?_
  show Wk _ p l e _ s m _ below meth c n0 _ h240 2 4 (mkF m 256 #[.val (.ref o0), .val (.long (1000 : Int64)), .second, .val (.ref b2), .val (.long (0 : Int64)), .second, .val (.ref b169), .val (.int (0 : Int32)), .val (.double z2), .second, .val (.int (0 : Int32))] [(.double z0), (.double z2), (.int (0 : Int32)), (.ref b169)])
  refine Wk.st (g' := (mkF m 257 #[.val (.ref o0), .val (.long (1000 : Int64)), .second, .val (.ref b2), .val (.long (0 : Int64)), .second, .val (.ref b169), .val (.int (0 : Int32)), .val (.double z2), .second, .val (.int (0 : Int32))] [(.double (FP.ddiv z2 z0)), (.int (0 : Int32)), (.ref b169)])) (fun X t q => XS.ddivS X.here C.hx rfl (hb C.hby d4_256) rfl nn_1 rfl q) ?_
  refine Wk.fStD C F242 (i := 0) (by decide) (by decide) (by decide) ge191 d4_257 ?_
  intro h291 W292 F293
  have F294 : Exa Z h291 o0 "com/example/torino/torino/AbsorbingChain" := F243.wr W292
  have F295 : Fld Z h291 o0 "com/example/torino/torino/AbsorbingChain" "markedRow" "I" (.int (-1 : Int32)) := F244.other W292 (Or.inl ne174)
  have F296 : Fld Z h291 o0 "com/example/torino/torino/AbsorbingChain" "size" "I" (.int (2 : Int32)) := F245.other W292 (Or.inl ne174)
  have F297 : Exa Z h291 o1 "[D" := F246.wr W292
  have F298 : Fld Z h291 o0 "com/example/torino/torino/AbsorbingChain" "exitProbabilities" "[D" (.ref o1) := F247.other W292 (Or.inl ne174)
  have F299 : Exa Z h291 o2 "[D" := F248.wr W292
  have F300 : Fld Z h291 o0 "com/example/torino/torino/AbsorbingChain" "exitValues" "[D" (.ref o2) := F249.other W292 (Or.inl ne174)
  have F301 : Exa Z h291 o3 "[[I" := F250.wr W292
  have F302 : Fld Z h291 o0 "com/example/torino/torino/AbsorbingChain" "nexts" "[[I" (.ref o3) := F251.other W292 (Or.inl ne174)
  have F303 : Exa Z h291 o4 "[[D" := F252.wr W292
  have F304 : Fld Z h291 o0 "com/example/torino/torino/AbsorbingChain" "probabilities" "[[D" (.ref o4) := F253.other W292 (Or.inl ne174)
  have F305 : Exa Z h291 o5 "[I" := F254.wr W292
  have F306 : Fa Z h291 o5 .int 2 (fun _ => (.int (0 : Int32))) := F255.other W292 ne179
  have F307 : Fld Z h291 o0 "com/example/torino/torino/AbsorbingChain" "lengths" "[I" (.ref o5) := F256.other W292 (Or.inl ne174)
  have F308 : Exa Z h291 o6 "[[I" := F257.wr W292
  have F309 : Fld Z h291 o0 "com/example/torino/torino/AbsorbingChain" "predecessors" "[[I" (.ref o6) := F258.other W292 (Or.inl ne174)
  have F310 : Exa Z h291 o7 "[I" := F259.wr W292
  have F311 : Fa Z h291 o7 .int 2 (fun _ => (.int (0 : Int32))) := F260.other W292 ne181
  have F312 : Fld Z h291 o0 "com/example/torino/torino/AbsorbingChain" "predecessorCounts" "[I" (.ref o7) := F261.other W292 (Or.inl ne174)
  have F313 : Exa Z h291 o8 "[I" := F262.wr W292
  have F314 : Fa Z h291 o8 .int 2 (fun _ => (.int (0 : Int32))) := F263.other W292 ne182
  have F315 : Fld Z h291 o0 "com/example/torino/torino/AbsorbingChain" "entryMarks" "[I" (.ref o8) := F264.other W292 (Or.inl ne174)
  have F316 : Exa Z h291 o9 "[I" := F265.wr W292
  have F317 : Fa Z h291 o9 .int 2 (fun _ => (.int (0 : Int32))) := F266.other W292 ne183
  have F318 : Fld Z h291 o0 "com/example/torino/torino/AbsorbingChain" "entries" "[I" (.ref o9) := F267.other W292 (Or.inl ne174)
  have F319 : Exa Z h291 o10 "[I" := F268.wr W292
  have F320 : Fa Z h291 o10 .int 2 (fun _ => (.int (0 : Int32))) := F269.other W292 ne184
  have F321 : Exa Z h291 o12 "[D" := F270.wr W292
  have F322 : Fa Z h291 o12 .double 2 (fun _ => (.double (0 : UInt64))) := F271.other W292 ne185
  have F323 : Exa Z h291 o14 "[I" := F272.wr W292
  have F324 : Fa Z h291 o14 .int 2 (fun _ => (.int (0 : Int32))) := F273.other W292 ne186
  have F325 : Exa Z h291 o11 "[I" := F274.wr W292
  have F326 : Fa Z h291 o11 .int 2 (fun _ => (.int (0 : Int32))) := F275.other W292 ne187
  have F327 : FaA Z h291 o3 .int "[I" 2 (up (up (fun _ => .null) 0 (.ref o10)) 1 (.ref o11)) := F276.other W292 ne177
  have F328 : Exa Z h291 o13 "[D" := F277.wr W292
  have F329 : Fa Z h291 o13 .double 2 (fun _ => (.double (0 : UInt64))) := F278.other W292 ne188
  have F330 : FaA Z h291 o4 .double "[D" 2 (up (up (fun _ => .null) 0 (.ref o12)) 1 (.ref o13)) := F279.other W292 ne178
  have F331 : Exa Z h291 o15 "[I" := F280.wr W292
  have F332 : Fa Z h291 o15 .int 2 (fun _ => (.int (0 : Int32))) := F281.other W292 ne189
  have F333 : FaA Z h291 o6 .int "[I" 2 (up (up (fun _ => .null) 0 (.ref o14)) 1 (.ref o15)) := F282.other W292 ne180
  have F334 : Fa Z h291 o1 .double 2 (up (up (fun _ => (.double (0 : UInt64))) 0 (.double z0)) 1 (.double z1)) := F283.other W292 ne175
  have F335 : Fa Z h291 o2 .double 2 (up (up (fun _ => (.double (0 : UInt64))) 0 (.double z2)) 1 (.double z3)) := F284.other W292 ne176
  have F336 : Exa Z h291 b2 "[D" := F285.wr W292
  have F337 : Fa Z h291 b2 .double 2 (up (up (fun _ => (.double (0 : UInt64))) 0 (.double z0)) 1 (.double z1)) := F286.other W292 ne190
  have F338 : Exa Z h291 b169 "[D" := F287.wr W292
  have sz339 : n0 ≤ h291.size := Nat.le_trans sz288 (Nat.le_of_eq W292.size.symm)
  have sy340 : h0.size ≤ h291.size := Nat.le_trans sy289 (Nat.le_of_eq W292.size.symm)
  have K341 := K290.wr W292 (Or.inr gz192)
  show Wk _ p l e _ s m _ below meth c n0 _ h291 2 4 (mkF m 258 #[.val (.ref o0), .val (.long (1000 : Int64)), .second, .val (.ref b2), .val (.long (0 : Int64)), .second, .val (.ref b169), .val (.int (0 : Int32)), .val (.double z2), .second, .val (.int (0 : Int32))] [])
  refine Wk.st (g' := (mkF m 261 #[.val (.ref o0), .val (.long (1000 : Int64)), .second, .val (.ref b2), .val (.long (0 : Int64)), .second, .val (.ref b169), .val (.int (-1 : Int32)), .val (.double z2), .second, .val (.int (0 : Int32))] [])) (fun X t q => XS.iinc X.here C.hx rfl (hb C.hby d4_258) rfl (l' := #[.val (.ref o0), .val (.long (1000 : Int64)), .second, .val (.ref b2), .val (.long (0 : Int64)), .second, .val (.ref b169), .val (.int (-1 : Int32)), .val (.double z2), .second, .val (.int (0 : Int32))]) rfl q) ?_
  refine Wk.st (g' := (mkF m 182 #[.val (.ref o0), .val (.long (1000 : Int64)), .second, .val (.ref b2), .val (.long (0 : Int64)), .second, .val (.ref b169), .val (.int (-1 : Int32)), .val (.double z2), .second, .val (.int (0 : Int32))] [])) (fun X t q => XS.goto X.here C.hx rfl (pc0 := 261) (pc' := 182) rfl (hb C.hby d4_261) (by decide) (by decide) q) ?_
  refine Wk.st (g' := (mkF m 184 #[.val (.ref o0), .val (.long (1000 : Int64)), .second, .val (.ref b2), .val (.long (0 : Int64)), .second, .val (.ref b169), .val (.int (-1 : Int32)), .val (.double z2), .second, .val (.int (0 : Int32))] [(.int (-1 : Int32))])) (fun X t q => XS.iload X.here C.hx rfl (hb C.hby d4_182) rfl q) ?_
  refine Wk.st (g' := (mkF m 264 #[.val (.ref o0), .val (.long (1000 : Int64)), .second, .val (.ref b2), .val (.long (0 : Int64)), .second, .val (.ref b169), .val (.int (-1 : Int32)), .val (.double z2), .second, .val (.int (0 : Int32))] [])) (fun X t q => XS.ifYes X.here C.hx rfl (pc0 := 184) (pc' := 264) rfl (hb C.hby d4_184) rfl (XT.i0_lt_t (by decide)) (by decide) (by decide) q) ?_
  refine Wk.st (g' := (mkF m 266 #[.val (.ref o0), .val (.long (1000 : Int64)), .second, .val (.ref b2), .val (.long (0 : Int64)), .second, .val (.ref b169), .val (.int (-1 : Int32)), .val (.double z2), .second, .val (.int (0 : Int32))] [(.ref b169)])) (fun X t q => XS.aload X.here C.hx rfl (hb C.hby d4_264) rfl rfl q) ?_
  exact Wk.retV C (t := (.array .double)) rfl rfl (Or.inr (Or.inr (Or.inr (Or.inr ⟨rfl, rfl, rfl⟩)))) d4_266 (by decide) (by decide) ⟨b169, rfl, K341, gz192, F338, F293.congr (fun i hi => by simp only [up]; (repeat' split) <;> first | rfl | (exfalso; omega))⟩
set_option maxRecDepth 65536 in
set_option maxHeartbeats 40000000 in
theorem own_3_5 (l : Launch) (Z : State) (a0 : Array Value) (hw : ∀ d ∈ tables_1, d.before a0 Z = true) (n0 : Nat) (h0 : Heap) (hsz : n0 ≤ h0.size) (o0 : Addr) (o1 : Addr) (o2 : Addr) (o3 : Addr) (o4 : Addr) (o5 : Addr) (o6 : Addr) (o7 : Addr) (o8 : Addr) (o9 : Addr) (o10 : Addr) (o11 : Addr) (o12 : Addr) (o13 : Addr) (o14 : Addr) (o15 : Addr) (z0 : UInt64) (z1 : UInt64) (P0 : Exa Z h0 o0 "com/example/torino/torino/AbsorbingChain") (P1 : Fld Z h0 o0 "com/example/torino/torino/AbsorbingChain" "markedRow" "I" (.int (-1 : Int32))) (P2 : Fld Z h0 o0 "com/example/torino/torino/AbsorbingChain" "size" "I" (.int (2 : Int32))) (P3 : Exa Z h0 o1 "[D") (P4 : Fa Z h0 o1 .double 2 (fun _ => (.double (0 : UInt64)))) (P5 : Fld Z h0 o0 "com/example/torino/torino/AbsorbingChain" "exitProbabilities" "[D" (.ref o1)) (P6 : Exa Z h0 o2 "[D") (P7 : Fa Z h0 o2 .double 2 (fun _ => (.double (0 : UInt64)))) (P8 : Fld Z h0 o0 "com/example/torino/torino/AbsorbingChain" "exitValues" "[D" (.ref o2)) (P9 : Exa Z h0 o3 "[[I") (P10 : Fld Z h0 o0 "com/example/torino/torino/AbsorbingChain" "nexts" "[[I" (.ref o3)) (P11 : Exa Z h0 o4 "[[D") (P12 : Fld Z h0 o0 "com/example/torino/torino/AbsorbingChain" "probabilities" "[[D" (.ref o4)) (P13 : Exa Z h0 o5 "[I") (P14 : Fa Z h0 o5 .int 2 (fun _ => (.int (0 : Int32)))) (P15 : Fld Z h0 o0 "com/example/torino/torino/AbsorbingChain" "lengths" "[I" (.ref o5)) (P16 : Exa Z h0 o6 "[[I") (P17 : Fld Z h0 o0 "com/example/torino/torino/AbsorbingChain" "predecessors" "[[I" (.ref o6)) (P18 : Exa Z h0 o7 "[I") (P19 : Fa Z h0 o7 .int 2 (fun _ => (.int (0 : Int32)))) (P20 : Fld Z h0 o0 "com/example/torino/torino/AbsorbingChain" "predecessorCounts" "[I" (.ref o7)) (P21 : Exa Z h0 o8 "[I") (P22 : Fa Z h0 o8 .int 2 (fun _ => (.int (0 : Int32)))) (P23 : Fld Z h0 o0 "com/example/torino/torino/AbsorbingChain" "entryMarks" "[I" (.ref o8)) (P24 : Exa Z h0 o9 "[I") (P25 : Fa Z h0 o9 .int 2 (fun _ => (.int (0 : Int32)))) (P26 : Fld Z h0 o0 "com/example/torino/torino/AbsorbingChain" "entries" "[I" (.ref o9)) (P27 : Exa Z h0 o10 "[I") (P28 : Fa Z h0 o10 .int 2 (fun _ => (.int (0 : Int32)))) (P29 : Exa Z h0 o12 "[D") (P30 : Fa Z h0 o12 .double 2 (fun _ => (.double (0 : UInt64)))) (P31 : Exa Z h0 o14 "[I") (P32 : Fa Z h0 o14 .int 2 (fun _ => (.int (0 : Int32)))) (P33 : Exa Z h0 o11 "[I") (P34 : Fa Z h0 o11 .int 2 (fun _ => (.int (0 : Int32)))) (P35 : FaA Z h0 o3 .int "[I" 2 (up (up (fun _ => .null) 0 (.ref o10)) 1 (.ref o11))) (P36 : Exa Z h0 o13 "[D") (P37 : Fa Z h0 o13 .double 2 (fun _ => (.double (0 : UInt64)))) (P38 : FaA Z h0 o4 .double "[D" 2 (up (up (fun _ => .null) 0 (.ref o12)) 1 (.ref o13))) (P39 : Exa Z h0 o15 "[I") (P40 : Fa Z h0 o15 .int 2 (fun _ => (.int (0 : Int32)))) (P41 : FaA Z h0 o6 .int "[I" 2 (up (up (fun _ => .null) 0 (.ref o14)) 1 (.ref o15))) (N_o0_o1 : o0 ≠ o1) (N_o0_o2 : o0 ≠ o2) (N_o0_o3 : o0 ≠ o3) (N_o0_o4 : o0 ≠ o4) (N_o0_o5 : o0 ≠ o5) (N_o0_o6 : o0 ≠ o6) (N_o0_o7 : o0 ≠ o7) (N_o0_o8 : o0 ≠ o8) (N_o0_o9 : o0 ≠ o9) (N_o0_o10 : o0 ≠ o10) (N_o0_o11 : o0 ≠ o11) (N_o0_o12 : o0 ≠ o12) (N_o0_o13 : o0 ≠ o13) (N_o0_o14 : o0 ≠ o14) (N_o0_o15 : o0 ≠ o15) (N_o1_o2 : o1 ≠ o2) (N_o1_o3 : o1 ≠ o3) (N_o1_o4 : o1 ≠ o4) (N_o1_o5 : o1 ≠ o5) (N_o1_o6 : o1 ≠ o6) (N_o1_o7 : o1 ≠ o7) (N_o1_o8 : o1 ≠ o8) (N_o1_o9 : o1 ≠ o9) (N_o1_o10 : o1 ≠ o10) (N_o1_o11 : o1 ≠ o11) (N_o1_o12 : o1 ≠ o12) (N_o1_o13 : o1 ≠ o13) (N_o1_o14 : o1 ≠ o14) (N_o1_o15 : o1 ≠ o15) (N_o2_o3 : o2 ≠ o3) (N_o2_o4 : o2 ≠ o4) (N_o2_o5 : o2 ≠ o5) (N_o2_o6 : o2 ≠ o6) (N_o2_o7 : o2 ≠ o7) (N_o2_o8 : o2 ≠ o8) (N_o2_o9 : o2 ≠ o9) (N_o2_o10 : o2 ≠ o10) (N_o2_o11 : o2 ≠ o11) (N_o2_o12 : o2 ≠ o12) (N_o2_o13 : o2 ≠ o13) (N_o2_o14 : o2 ≠ o14) (N_o2_o15 : o2 ≠ o15) (N_o3_o4 : o3 ≠ o4) (N_o3_o5 : o3 ≠ o5) (N_o3_o6 : o3 ≠ o6) (N_o3_o7 : o3 ≠ o7) (N_o3_o8 : o3 ≠ o8) (N_o3_o9 : o3 ≠ o9) (N_o3_o10 : o3 ≠ o10) (N_o3_o11 : o3 ≠ o11) (N_o3_o12 : o3 ≠ o12) (N_o3_o13 : o3 ≠ o13) (N_o3_o14 : o3 ≠ o14) (N_o3_o15 : o3 ≠ o15) (N_o4_o5 : o4 ≠ o5) (N_o4_o6 : o4 ≠ o6) (N_o4_o7 : o4 ≠ o7) (N_o4_o8 : o4 ≠ o8) (N_o4_o9 : o4 ≠ o9) (N_o4_o10 : o4 ≠ o10) (N_o4_o11 : o4 ≠ o11) (N_o4_o12 : o4 ≠ o12) (N_o4_o13 : o4 ≠ o13) (N_o4_o14 : o4 ≠ o14) (N_o4_o15 : o4 ≠ o15) (N_o5_o6 : o5 ≠ o6) (N_o5_o7 : o5 ≠ o7) (N_o5_o8 : o5 ≠ o8) (N_o5_o9 : o5 ≠ o9) (N_o5_o10 : o5 ≠ o10) (N_o5_o11 : o5 ≠ o11) (N_o5_o12 : o5 ≠ o12) (N_o5_o13 : o5 ≠ o13) (N_o5_o14 : o5 ≠ o14) (N_o5_o15 : o5 ≠ o15) (N_o6_o7 : o6 ≠ o7) (N_o6_o8 : o6 ≠ o8) (N_o6_o9 : o6 ≠ o9) (N_o6_o10 : o6 ≠ o10) (N_o6_o11 : o6 ≠ o11) (N_o6_o12 : o6 ≠ o12) (N_o6_o13 : o6 ≠ o13) (N_o6_o14 : o6 ≠ o14) (N_o6_o15 : o6 ≠ o15) (N_o7_o8 : o7 ≠ o8) (N_o7_o9 : o7 ≠ o9) (N_o7_o10 : o7 ≠ o10) (N_o7_o11 : o7 ≠ o11) (N_o7_o12 : o7 ≠ o12) (N_o7_o13 : o7 ≠ o13) (N_o7_o14 : o7 ≠ o14) (N_o7_o15 : o7 ≠ o15) (N_o8_o9 : o8 ≠ o9) (N_o8_o10 : o8 ≠ o10) (N_o8_o11 : o8 ≠ o11) (N_o8_o12 : o8 ≠ o12) (N_o8_o13 : o8 ≠ o13) (N_o8_o14 : o8 ≠ o14) (N_o8_o15 : o8 ≠ o15) (N_o9_o10 : o9 ≠ o10) (N_o9_o11 : o9 ≠ o11) (N_o9_o12 : o9 ≠ o12) (N_o9_o13 : o9 ≠ o13) (N_o9_o14 : o9 ≠ o14) (N_o9_o15 : o9 ≠ o15) (N_o10_o11 : o10 ≠ o11) (N_o10_o12 : o10 ≠ o12) (N_o10_o13 : o10 ≠ o13) (N_o10_o14 : o10 ≠ o14) (N_o10_o15 : o10 ≠ o15) (N_o11_o12 : o11 ≠ o12) (N_o11_o13 : o11 ≠ o13) (N_o11_o14 : o11 ≠ o14) (N_o11_o15 : o11 ≠ o15) (N_o12_o13 : o12 ≠ o13) (N_o12_o14 : o12 ≠ o14) (N_o12_o15 : o12 ≠ o15) (N_o13_o14 : o13 ≠ o14) (N_o13_o15 : o13 ≠ o15) (N_o14_o15 : o14 ≠ o15) (G_o0 : n0 ≤ o0) (G_o1 : n0 ≤ o1) (G_o2 : n0 ≤ o2) (G_o3 : n0 ≤ o3) (G_o4 : n0 ≤ o4) (G_o5 : n0 ≤ o5) (G_o6 : n0 ≤ o6) (G_o7 : n0 ≤ o7) (G_o8 : n0 ≤ o8) (G_o9 : n0 ≤ o9) (G_o10 : n0 ≤ o10) (G_o11 : n0 ≤ o11) (G_o12 : n0 ≤ o12) (G_o13 : n0 ≤ o13) (G_o14 : n0 ≤ o14) (G_o15 : n0 ≤ o15) (nn_0 : Jvm.Free.Fl.NoNaN64 (FP.dadd (0 : UInt64) z0)) (nn_1 : Jvm.Free.Fl.NoNaN64 (FP.dmul z0 z1)) (nn_2 : Jvm.Free.Fl.NoNaN64 (FP.dadd (0 : UInt64) (FP.dmul z0 z1))) :
    Met false l Z n0 (⟨"com/example/torino/torino/AbsorbingChain", "addExit", "(IDD)V"⟩ : MethodName) prog_1_method_3_code 6 none ({ frames := 0, cells := 0, slots := 0, locals := 0 } : Room) #[(.ref o0), (.int (1 : Int32)), (.double z0), (.double z1)] h0 (fun v h => v = none ∧ Keep h0 h [o1, o2] ∧ Fa Z h o1 .double 2 (up (fun _ => (.double (0 : UInt64))) 1 (.double (FP.dadd (0 : UInt64) z0))) ∧ Fa Z h o2 .double 2 (up (fun _ => (.double (0 : UInt64))) 1 (.double (FP.dadd (0 : UInt64) (FP.dmul z0 z1))))) := by
  refine Met.of (plainFor_of_name pn_0) #[.val (.ref o0), .val (.int (1 : Int32)), .val (.double z0), .second, .val (.double z1), .second] (fun m => by first | (simp [entryFrame, mkF, argsToLocals, Value.category]; done) | rfl) ?_
  intro p e s m below meth c C
  refine Wk.st (g' := (mkF m 1 #[.val (.ref o0), .val (.int (1 : Int32)), .val (.double z0), .second, .val (.double z1), .second] [(.ref o0)])) (fun X t q => XS.aloadN X.here C.hx rfl (hb C.hby d3_0) rfl rfl q) ?_
  refine Wk.getF C (hw _ (List.mem_of_getElem? (i := 14) rfl)) Via.refl P5 d3_1 ?_
  show Wk _ p l e _ s m _ below meth c n0 _ h0 0 0 (mkF m 4 #[.val (.ref o0), .val (.int (1 : Int32)), .val (.double z0), .second, .val (.double z1), .second] [(.ref o1)])
  refine Wk.st (g' := (mkF m 5 #[.val (.ref o0), .val (.int (1 : Int32)), .val (.double z0), .second, .val (.double z1), .second] [(.int (1 : Int32)), (.ref o1)])) (fun X t q => XS.iloadN X.here C.hx rfl (hb C.hby d3_4) rfl q) ?_
  refine Wk.st (g' := (mkF m 6 #[.val (.ref o0), .val (.int (1 : Int32)), .val (.double z0), .second, .val (.double z1), .second] [(.int (1 : Int32)), (.ref o1), (.int (1 : Int32)), (.ref o1)])) (fun X t q => XT.dup2 X.here C.hx rfl (hb C.hby d3_5) rfl rfl rfl q) ?_
  refine Wk.fLdD C P4 (i := 1) (by decide) (by decide) (by decide) (v := (.double (0 : UInt64))) rfl d3_6 ?_
  show Wk _ p l e _ s m _ below meth c n0 _ h0 0 0 (mkF m 7 #[.val (.ref o0), .val (.int (1 : Int32)), .val (.double z0), .second, .val (.double z1), .second] [(.double (0 : UInt64)), (.int (1 : Int32)), (.ref o1)])
  refine Wk.st (g' := (mkF m 8 #[.val (.ref o0), .val (.int (1 : Int32)), .val (.double z0), .second, .val (.double z1), .second] [(.double z0), (.double (0 : UInt64)), (.int (1 : Int32)), (.ref o1)])) (fun X t q => XS.dloadN X.here C.hx rfl (hb C.hby d3_7) rfl q) ?_
  refine Wk.st (g' := (mkF m 9 #[.val (.ref o0), .val (.int (1 : Int32)), .val (.double z0), .second, .val (.double z1), .second] [(.double (FP.dadd (0 : UInt64) z0)), (.int (1 : Int32)), (.ref o1)])) (fun X t q => XS.daddS X.here C.hx rfl (hb C.hby d3_8) rfl nn_0 rfl q) ?_
  refine Wk.fStD C P4 (i := 1) (by decide) (by decide) (by decide) G_o1 d3_9 ?_
  intro h1 W2 F3
  have F4 : Exa Z h1 o0 "com/example/torino/torino/AbsorbingChain" := P0.wr W2
  have F5 : Fld Z h1 o0 "com/example/torino/torino/AbsorbingChain" "markedRow" "I" (.int (-1 : Int32)) := P1.other W2 (Or.inl N_o0_o1)
  have F6 : Fld Z h1 o0 "com/example/torino/torino/AbsorbingChain" "size" "I" (.int (2 : Int32)) := P2.other W2 (Or.inl N_o0_o1)
  have F7 : Exa Z h1 o1 "[D" := P3.wr W2
  have F8 : Fld Z h1 o0 "com/example/torino/torino/AbsorbingChain" "exitProbabilities" "[D" (.ref o1) := P5.other W2 (Or.inl N_o0_o1)
  have F9 : Exa Z h1 o2 "[D" := P6.wr W2
  have F10 : Fa Z h1 o2 .double 2 (fun _ => (.double (0 : UInt64))) := P7.other W2 (Ne.symm N_o1_o2)
  have F11 : Fld Z h1 o0 "com/example/torino/torino/AbsorbingChain" "exitValues" "[D" (.ref o2) := P8.other W2 (Or.inl N_o0_o1)
  have F12 : Exa Z h1 o3 "[[I" := P9.wr W2
  have F13 : Fld Z h1 o0 "com/example/torino/torino/AbsorbingChain" "nexts" "[[I" (.ref o3) := P10.other W2 (Or.inl N_o0_o1)
  have F14 : Exa Z h1 o4 "[[D" := P11.wr W2
  have F15 : Fld Z h1 o0 "com/example/torino/torino/AbsorbingChain" "probabilities" "[[D" (.ref o4) := P12.other W2 (Or.inl N_o0_o1)
  have F16 : Exa Z h1 o5 "[I" := P13.wr W2
  have F17 : Fa Z h1 o5 .int 2 (fun _ => (.int (0 : Int32))) := P14.other W2 (Ne.symm N_o1_o5)
  have F18 : Fld Z h1 o0 "com/example/torino/torino/AbsorbingChain" "lengths" "[I" (.ref o5) := P15.other W2 (Or.inl N_o0_o1)
  have F19 : Exa Z h1 o6 "[[I" := P16.wr W2
  have F20 : Fld Z h1 o0 "com/example/torino/torino/AbsorbingChain" "predecessors" "[[I" (.ref o6) := P17.other W2 (Or.inl N_o0_o1)
  have F21 : Exa Z h1 o7 "[I" := P18.wr W2
  have F22 : Fa Z h1 o7 .int 2 (fun _ => (.int (0 : Int32))) := P19.other W2 (Ne.symm N_o1_o7)
  have F23 : Fld Z h1 o0 "com/example/torino/torino/AbsorbingChain" "predecessorCounts" "[I" (.ref o7) := P20.other W2 (Or.inl N_o0_o1)
  have F24 : Exa Z h1 o8 "[I" := P21.wr W2
  have F25 : Fa Z h1 o8 .int 2 (fun _ => (.int (0 : Int32))) := P22.other W2 (Ne.symm N_o1_o8)
  have F26 : Fld Z h1 o0 "com/example/torino/torino/AbsorbingChain" "entryMarks" "[I" (.ref o8) := P23.other W2 (Or.inl N_o0_o1)
  have F27 : Exa Z h1 o9 "[I" := P24.wr W2
  have F28 : Fa Z h1 o9 .int 2 (fun _ => (.int (0 : Int32))) := P25.other W2 (Ne.symm N_o1_o9)
  have F29 : Fld Z h1 o0 "com/example/torino/torino/AbsorbingChain" "entries" "[I" (.ref o9) := P26.other W2 (Or.inl N_o0_o1)
  have F30 : Exa Z h1 o10 "[I" := P27.wr W2
  have F31 : Fa Z h1 o10 .int 2 (fun _ => (.int (0 : Int32))) := P28.other W2 (Ne.symm N_o1_o10)
  have F32 : Exa Z h1 o12 "[D" := P29.wr W2
  have F33 : Fa Z h1 o12 .double 2 (fun _ => (.double (0 : UInt64))) := P30.other W2 (Ne.symm N_o1_o12)
  have F34 : Exa Z h1 o14 "[I" := P31.wr W2
  have F35 : Fa Z h1 o14 .int 2 (fun _ => (.int (0 : Int32))) := P32.other W2 (Ne.symm N_o1_o14)
  have F36 : Exa Z h1 o11 "[I" := P33.wr W2
  have F37 : Fa Z h1 o11 .int 2 (fun _ => (.int (0 : Int32))) := P34.other W2 (Ne.symm N_o1_o11)
  have F38 : FaA Z h1 o3 .int "[I" 2 (up (up (fun _ => .null) 0 (.ref o10)) 1 (.ref o11)) := P35.other W2 (Ne.symm N_o1_o3)
  have F39 : Exa Z h1 o13 "[D" := P36.wr W2
  have F40 : Fa Z h1 o13 .double 2 (fun _ => (.double (0 : UInt64))) := P37.other W2 (Ne.symm N_o1_o13)
  have F41 : FaA Z h1 o4 .double "[D" 2 (up (up (fun _ => .null) 0 (.ref o12)) 1 (.ref o13)) := P38.other W2 (Ne.symm N_o1_o4)
  have F42 : Exa Z h1 o15 "[I" := P39.wr W2
  have F43 : Fa Z h1 o15 .int 2 (fun _ => (.int (0 : Int32))) := P40.other W2 (Ne.symm N_o1_o15)
  have F44 : FaA Z h1 o6 .int "[I" 2 (up (up (fun _ => .null) 0 (.ref o14)) 1 (.ref o15)) := P41.other W2 (Ne.symm N_o1_o6)
  have sz45 : n0 ≤ h1.size := Nat.le_trans hsz (Nat.le_of_eq W2.size.symm)
  have sy46 : h0.size ≤ h1.size := Nat.le_trans (Nat.le_refl h0.size) (Nat.le_of_eq W2.size.symm)
  have K47 := (Keep.refl h0 [o1, o2]).wr W2 (Or.inl (by simp))
  show Wk _ p l e _ s m _ below meth c n0 _ h1 0 0 (mkF m 10 #[.val (.ref o0), .val (.int (1 : Int32)), .val (.double z0), .second, .val (.double z1), .second] [])
  refine Wk.st (g' := (mkF m 11 #[.val (.ref o0), .val (.int (1 : Int32)), .val (.double z0), .second, .val (.double z1), .second] [(.ref o0)])) (fun X t q => XS.aloadN X.here C.hx rfl (hb C.hby d3_10) rfl rfl q) ?_
  refine Wk.getF C (hw _ (List.mem_of_getElem? (i := 16) rfl)) Via.refl F11 d3_11 ?_
  show Wk _ p l e _ s m _ below meth c n0 _ h1 0 0 (mkF m 14 #[.val (.ref o0), .val (.int (1 : Int32)), .val (.double z0), .second, .val (.double z1), .second] [(.ref o2)])
  refine Wk.st (g' := (mkF m 15 #[.val (.ref o0), .val (.int (1 : Int32)), .val (.double z0), .second, .val (.double z1), .second] [(.int (1 : Int32)), (.ref o2)])) (fun X t q => XS.iloadN X.here C.hx rfl (hb C.hby d3_14) rfl q) ?_
  refine Wk.st (g' := (mkF m 16 #[.val (.ref o0), .val (.int (1 : Int32)), .val (.double z0), .second, .val (.double z1), .second] [(.int (1 : Int32)), (.ref o2), (.int (1 : Int32)), (.ref o2)])) (fun X t q => XT.dup2 X.here C.hx rfl (hb C.hby d3_15) rfl rfl rfl q) ?_
  refine Wk.fLdD C F10 (i := 1) (by decide) (by decide) (by decide) (v := (.double (0 : UInt64))) rfl d3_16 ?_
  show Wk _ p l e _ s m _ below meth c n0 _ h1 0 0 (mkF m 17 #[.val (.ref o0), .val (.int (1 : Int32)), .val (.double z0), .second, .val (.double z1), .second] [(.double (0 : UInt64)), (.int (1 : Int32)), (.ref o2)])
  refine Wk.st (g' := (mkF m 18 #[.val (.ref o0), .val (.int (1 : Int32)), .val (.double z0), .second, .val (.double z1), .second] [(.double z0), (.double (0 : UInt64)), (.int (1 : Int32)), (.ref o2)])) (fun X t q => XS.dloadN X.here C.hx rfl (hb C.hby d3_17) rfl q) ?_
  refine Wk.st (g' := (mkF m 20 #[.val (.ref o0), .val (.int (1 : Int32)), .val (.double z0), .second, .val (.double z1), .second] [(.double z1), (.double z0), (.double (0 : UInt64)), (.int (1 : Int32)), (.ref o2)])) (fun X t q => XS.dload X.here C.hx rfl (hb C.hby d3_18) rfl q) ?_
  refine Wk.st (g' := (mkF m 21 #[.val (.ref o0), .val (.int (1 : Int32)), .val (.double z0), .second, .val (.double z1), .second] [(.double (FP.dmul z0 z1)), (.double (0 : UInt64)), (.int (1 : Int32)), (.ref o2)])) (fun X t q => XS.dmulS X.here C.hx rfl (hb C.hby d3_20) rfl nn_1 rfl q) ?_
  refine Wk.st (g' := (mkF m 22 #[.val (.ref o0), .val (.int (1 : Int32)), .val (.double z0), .second, .val (.double z1), .second] [(.double (FP.dadd (0 : UInt64) (FP.dmul z0 z1))), (.int (1 : Int32)), (.ref o2)])) (fun X t q => XS.daddS X.here C.hx rfl (hb C.hby d3_21) rfl nn_2 rfl q) ?_
  refine Wk.fStD C F10 (i := 1) (by decide) (by decide) (by decide) G_o2 d3_22 ?_
  intro h48 W49 F50
  have F51 : Exa Z h48 o0 "com/example/torino/torino/AbsorbingChain" := F4.wr W49
  have F52 : Fld Z h48 o0 "com/example/torino/torino/AbsorbingChain" "markedRow" "I" (.int (-1 : Int32)) := F5.other W49 (Or.inl N_o0_o2)
  have F53 : Fld Z h48 o0 "com/example/torino/torino/AbsorbingChain" "size" "I" (.int (2 : Int32)) := F6.other W49 (Or.inl N_o0_o2)
  have F54 : Exa Z h48 o1 "[D" := F7.wr W49
  have F55 : Fld Z h48 o0 "com/example/torino/torino/AbsorbingChain" "exitProbabilities" "[D" (.ref o1) := F8.other W49 (Or.inl N_o0_o2)
  have F56 : Exa Z h48 o2 "[D" := F9.wr W49
  have F57 : Fld Z h48 o0 "com/example/torino/torino/AbsorbingChain" "exitValues" "[D" (.ref o2) := F11.other W49 (Or.inl N_o0_o2)
  have F58 : Exa Z h48 o3 "[[I" := F12.wr W49
  have F59 : Fld Z h48 o0 "com/example/torino/torino/AbsorbingChain" "nexts" "[[I" (.ref o3) := F13.other W49 (Or.inl N_o0_o2)
  have F60 : Exa Z h48 o4 "[[D" := F14.wr W49
  have F61 : Fld Z h48 o0 "com/example/torino/torino/AbsorbingChain" "probabilities" "[[D" (.ref o4) := F15.other W49 (Or.inl N_o0_o2)
  have F62 : Exa Z h48 o5 "[I" := F16.wr W49
  have F63 : Fa Z h48 o5 .int 2 (fun _ => (.int (0 : Int32))) := F17.other W49 (Ne.symm N_o2_o5)
  have F64 : Fld Z h48 o0 "com/example/torino/torino/AbsorbingChain" "lengths" "[I" (.ref o5) := F18.other W49 (Or.inl N_o0_o2)
  have F65 : Exa Z h48 o6 "[[I" := F19.wr W49
  have F66 : Fld Z h48 o0 "com/example/torino/torino/AbsorbingChain" "predecessors" "[[I" (.ref o6) := F20.other W49 (Or.inl N_o0_o2)
  have F67 : Exa Z h48 o7 "[I" := F21.wr W49
  have F68 : Fa Z h48 o7 .int 2 (fun _ => (.int (0 : Int32))) := F22.other W49 (Ne.symm N_o2_o7)
  have F69 : Fld Z h48 o0 "com/example/torino/torino/AbsorbingChain" "predecessorCounts" "[I" (.ref o7) := F23.other W49 (Or.inl N_o0_o2)
  have F70 : Exa Z h48 o8 "[I" := F24.wr W49
  have F71 : Fa Z h48 o8 .int 2 (fun _ => (.int (0 : Int32))) := F25.other W49 (Ne.symm N_o2_o8)
  have F72 : Fld Z h48 o0 "com/example/torino/torino/AbsorbingChain" "entryMarks" "[I" (.ref o8) := F26.other W49 (Or.inl N_o0_o2)
  have F73 : Exa Z h48 o9 "[I" := F27.wr W49
  have F74 : Fa Z h48 o9 .int 2 (fun _ => (.int (0 : Int32))) := F28.other W49 (Ne.symm N_o2_o9)
  have F75 : Fld Z h48 o0 "com/example/torino/torino/AbsorbingChain" "entries" "[I" (.ref o9) := F29.other W49 (Or.inl N_o0_o2)
  have F76 : Exa Z h48 o10 "[I" := F30.wr W49
  have F77 : Fa Z h48 o10 .int 2 (fun _ => (.int (0 : Int32))) := F31.other W49 (Ne.symm N_o2_o10)
  have F78 : Exa Z h48 o12 "[D" := F32.wr W49
  have F79 : Fa Z h48 o12 .double 2 (fun _ => (.double (0 : UInt64))) := F33.other W49 (Ne.symm N_o2_o12)
  have F80 : Exa Z h48 o14 "[I" := F34.wr W49
  have F81 : Fa Z h48 o14 .int 2 (fun _ => (.int (0 : Int32))) := F35.other W49 (Ne.symm N_o2_o14)
  have F82 : Exa Z h48 o11 "[I" := F36.wr W49
  have F83 : Fa Z h48 o11 .int 2 (fun _ => (.int (0 : Int32))) := F37.other W49 (Ne.symm N_o2_o11)
  have F84 : FaA Z h48 o3 .int "[I" 2 (up (up (fun _ => .null) 0 (.ref o10)) 1 (.ref o11)) := F38.other W49 (Ne.symm N_o2_o3)
  have F85 : Exa Z h48 o13 "[D" := F39.wr W49
  have F86 : Fa Z h48 o13 .double 2 (fun _ => (.double (0 : UInt64))) := F40.other W49 (Ne.symm N_o2_o13)
  have F87 : FaA Z h48 o4 .double "[D" 2 (up (up (fun _ => .null) 0 (.ref o12)) 1 (.ref o13)) := F41.other W49 (Ne.symm N_o2_o4)
  have F88 : Exa Z h48 o15 "[I" := F42.wr W49
  have F89 : Fa Z h48 o15 .int 2 (fun _ => (.int (0 : Int32))) := F43.other W49 (Ne.symm N_o2_o15)
  have F90 : FaA Z h48 o6 .int "[I" 2 (up (up (fun _ => .null) 0 (.ref o14)) 1 (.ref o15)) := F44.other W49 (Ne.symm N_o2_o6)
  have F91 : Fa Z h48 o1 .double 2 (up (fun _ => (.double (0 : UInt64))) 1 (.double (FP.dadd (0 : UInt64) z0))) := F3.other W49 N_o1_o2
  have sz92 : n0 ≤ h48.size := Nat.le_trans sz45 (Nat.le_of_eq W49.size.symm)
  have sy93 : h0.size ≤ h48.size := Nat.le_trans sy46 (Nat.le_of_eq W49.size.symm)
  have K94 := K47.wr W49 (Or.inl (by simp))
  show Wk _ p l e _ s m _ below meth c n0 _ h48 0 0 (mkF m 23 #[.val (.ref o0), .val (.int (1 : Int32)), .val (.double z0), .second, .val (.double z1), .second] [])
  exact Wk.retN0 C rfl d3_23 (by decide) (by decide) ⟨rfl, K94, F91, F50⟩
set_option maxRecDepth 65536 in
set_option maxHeartbeats 40000000 in
theorem own_3_6 (l : Launch) (Z : State) (a0 : Array Value) (hw : ∀ d ∈ tables_1, d.before a0 Z = true) (n0 : Nat) (h0 : Heap) (hsz : n0 ≤ h0.size) (o0 : Addr) (o1 : Addr) (o2 : Addr) (o3 : Addr) (o4 : Addr) (o5 : Addr) (o6 : Addr) (o7 : Addr) (o8 : Addr) (o9 : Addr) (o10 : Addr) (o11 : Addr) (o12 : Addr) (o13 : Addr) (o14 : Addr) (o15 : Addr) (z0 : UInt64) (z1 : UInt64) (z2 : UInt64) (z3 : UInt64) (P0 : Exa Z h0 o0 "com/example/torino/torino/AbsorbingChain") (P1 : Fld Z h0 o0 "com/example/torino/torino/AbsorbingChain" "markedRow" "I" (.int (-1 : Int32))) (P2 : Fld Z h0 o0 "com/example/torino/torino/AbsorbingChain" "size" "I" (.int (2 : Int32))) (P3 : Exa Z h0 o1 "[D") (P4 : Fld Z h0 o0 "com/example/torino/torino/AbsorbingChain" "exitProbabilities" "[D" (.ref o1)) (P5 : Exa Z h0 o2 "[D") (P6 : Fld Z h0 o0 "com/example/torino/torino/AbsorbingChain" "exitValues" "[D" (.ref o2)) (P7 : Exa Z h0 o3 "[[I") (P8 : Fld Z h0 o0 "com/example/torino/torino/AbsorbingChain" "nexts" "[[I" (.ref o3)) (P9 : Exa Z h0 o4 "[[D") (P10 : Fld Z h0 o0 "com/example/torino/torino/AbsorbingChain" "probabilities" "[[D" (.ref o4)) (P11 : Exa Z h0 o5 "[I") (P12 : Fa Z h0 o5 .int 2 (fun _ => (.int (0 : Int32)))) (P13 : Fld Z h0 o0 "com/example/torino/torino/AbsorbingChain" "lengths" "[I" (.ref o5)) (P14 : Exa Z h0 o6 "[[I") (P15 : Fld Z h0 o0 "com/example/torino/torino/AbsorbingChain" "predecessors" "[[I" (.ref o6)) (P16 : Exa Z h0 o7 "[I") (P17 : Fa Z h0 o7 .int 2 (fun _ => (.int (0 : Int32)))) (P18 : Fld Z h0 o0 "com/example/torino/torino/AbsorbingChain" "predecessorCounts" "[I" (.ref o7)) (P19 : Exa Z h0 o8 "[I") (P20 : Fa Z h0 o8 .int 2 (fun _ => (.int (0 : Int32)))) (P21 : Fld Z h0 o0 "com/example/torino/torino/AbsorbingChain" "entryMarks" "[I" (.ref o8)) (P22 : Exa Z h0 o9 "[I") (P23 : Fa Z h0 o9 .int 2 (fun _ => (.int (0 : Int32)))) (P24 : Fld Z h0 o0 "com/example/torino/torino/AbsorbingChain" "entries" "[I" (.ref o9)) (P25 : Exa Z h0 o10 "[I") (P26 : Fa Z h0 o10 .int 2 (fun _ => (.int (0 : Int32)))) (P27 : Exa Z h0 o12 "[D") (P28 : Fa Z h0 o12 .double 2 (fun _ => (.double (0 : UInt64)))) (P29 : Exa Z h0 o14 "[I") (P30 : Fa Z h0 o14 .int 2 (fun _ => (.int (0 : Int32)))) (P31 : Exa Z h0 o11 "[I") (P32 : Fa Z h0 o11 .int 2 (fun _ => (.int (0 : Int32)))) (P33 : FaA Z h0 o3 .int "[I" 2 (up (up (fun _ => .null) 0 (.ref o10)) 1 (.ref o11))) (P34 : Exa Z h0 o13 "[D") (P35 : Fa Z h0 o13 .double 2 (fun _ => (.double (0 : UInt64)))) (P36 : FaA Z h0 o4 .double "[D" 2 (up (up (fun _ => .null) 0 (.ref o12)) 1 (.ref o13))) (P37 : Exa Z h0 o15 "[I") (P38 : Fa Z h0 o15 .int 2 (fun _ => (.int (0 : Int32)))) (P39 : FaA Z h0 o6 .int "[I" 2 (up (up (fun _ => .null) 0 (.ref o14)) 1 (.ref o15))) (P40 : Fa Z h0 o1 .double 2 (up (fun _ => (.double (0 : UInt64))) 1 (.double z2))) (P41 : Fa Z h0 o2 .double 2 (up (fun _ => (.double (0 : UInt64))) 1 (.double z3))) (N_o0_o1 : o0 ≠ o1) (N_o0_o2 : o0 ≠ o2) (N_o0_o3 : o0 ≠ o3) (N_o0_o4 : o0 ≠ o4) (N_o0_o5 : o0 ≠ o5) (N_o0_o6 : o0 ≠ o6) (N_o0_o7 : o0 ≠ o7) (N_o0_o8 : o0 ≠ o8) (N_o0_o9 : o0 ≠ o9) (N_o0_o10 : o0 ≠ o10) (N_o0_o11 : o0 ≠ o11) (N_o0_o12 : o0 ≠ o12) (N_o0_o13 : o0 ≠ o13) (N_o0_o14 : o0 ≠ o14) (N_o0_o15 : o0 ≠ o15) (N_o1_o2 : o1 ≠ o2) (N_o1_o3 : o1 ≠ o3) (N_o1_o4 : o1 ≠ o4) (N_o1_o5 : o1 ≠ o5) (N_o1_o6 : o1 ≠ o6) (N_o1_o7 : o1 ≠ o7) (N_o1_o8 : o1 ≠ o8) (N_o1_o9 : o1 ≠ o9) (N_o1_o10 : o1 ≠ o10) (N_o1_o11 : o1 ≠ o11) (N_o1_o12 : o1 ≠ o12) (N_o1_o13 : o1 ≠ o13) (N_o1_o14 : o1 ≠ o14) (N_o1_o15 : o1 ≠ o15) (N_o2_o3 : o2 ≠ o3) (N_o2_o4 : o2 ≠ o4) (N_o2_o5 : o2 ≠ o5) (N_o2_o6 : o2 ≠ o6) (N_o2_o7 : o2 ≠ o7) (N_o2_o8 : o2 ≠ o8) (N_o2_o9 : o2 ≠ o9) (N_o2_o10 : o2 ≠ o10) (N_o2_o11 : o2 ≠ o11) (N_o2_o12 : o2 ≠ o12) (N_o2_o13 : o2 ≠ o13) (N_o2_o14 : o2 ≠ o14) (N_o2_o15 : o2 ≠ o15) (N_o3_o4 : o3 ≠ o4) (N_o3_o5 : o3 ≠ o5) (N_o3_o6 : o3 ≠ o6) (N_o3_o7 : o3 ≠ o7) (N_o3_o8 : o3 ≠ o8) (N_o3_o9 : o3 ≠ o9) (N_o3_o10 : o3 ≠ o10) (N_o3_o11 : o3 ≠ o11) (N_o3_o12 : o3 ≠ o12) (N_o3_o13 : o3 ≠ o13) (N_o3_o14 : o3 ≠ o14) (N_o3_o15 : o3 ≠ o15) (N_o4_o5 : o4 ≠ o5) (N_o4_o6 : o4 ≠ o6) (N_o4_o7 : o4 ≠ o7) (N_o4_o8 : o4 ≠ o8) (N_o4_o9 : o4 ≠ o9) (N_o4_o10 : o4 ≠ o10) (N_o4_o11 : o4 ≠ o11) (N_o4_o12 : o4 ≠ o12) (N_o4_o13 : o4 ≠ o13) (N_o4_o14 : o4 ≠ o14) (N_o4_o15 : o4 ≠ o15) (N_o5_o6 : o5 ≠ o6) (N_o5_o7 : o5 ≠ o7) (N_o5_o8 : o5 ≠ o8) (N_o5_o9 : o5 ≠ o9) (N_o5_o10 : o5 ≠ o10) (N_o5_o11 : o5 ≠ o11) (N_o5_o12 : o5 ≠ o12) (N_o5_o13 : o5 ≠ o13) (N_o5_o14 : o5 ≠ o14) (N_o5_o15 : o5 ≠ o15) (N_o6_o7 : o6 ≠ o7) (N_o6_o8 : o6 ≠ o8) (N_o6_o9 : o6 ≠ o9) (N_o6_o10 : o6 ≠ o10) (N_o6_o11 : o6 ≠ o11) (N_o6_o12 : o6 ≠ o12) (N_o6_o13 : o6 ≠ o13) (N_o6_o14 : o6 ≠ o14) (N_o6_o15 : o6 ≠ o15) (N_o7_o8 : o7 ≠ o8) (N_o7_o9 : o7 ≠ o9) (N_o7_o10 : o7 ≠ o10) (N_o7_o11 : o7 ≠ o11) (N_o7_o12 : o7 ≠ o12) (N_o7_o13 : o7 ≠ o13) (N_o7_o14 : o7 ≠ o14) (N_o7_o15 : o7 ≠ o15) (N_o8_o9 : o8 ≠ o9) (N_o8_o10 : o8 ≠ o10) (N_o8_o11 : o8 ≠ o11) (N_o8_o12 : o8 ≠ o12) (N_o8_o13 : o8 ≠ o13) (N_o8_o14 : o8 ≠ o14) (N_o8_o15 : o8 ≠ o15) (N_o9_o10 : o9 ≠ o10) (N_o9_o11 : o9 ≠ o11) (N_o9_o12 : o9 ≠ o12) (N_o9_o13 : o9 ≠ o13) (N_o9_o14 : o9 ≠ o14) (N_o9_o15 : o9 ≠ o15) (N_o10_o11 : o10 ≠ o11) (N_o10_o12 : o10 ≠ o12) (N_o10_o13 : o10 ≠ o13) (N_o10_o14 : o10 ≠ o14) (N_o10_o15 : o10 ≠ o15) (N_o11_o12 : o11 ≠ o12) (N_o11_o13 : o11 ≠ o13) (N_o11_o14 : o11 ≠ o14) (N_o11_o15 : o11 ≠ o15) (N_o12_o13 : o12 ≠ o13) (N_o12_o14 : o12 ≠ o14) (N_o12_o15 : o12 ≠ o15) (N_o13_o14 : o13 ≠ o14) (N_o13_o15 : o13 ≠ o15) (N_o14_o15 : o14 ≠ o15) (G_o0 : n0 ≤ o0) (G_o1 : n0 ≤ o1) (G_o2 : n0 ≤ o2) (G_o3 : n0 ≤ o3) (G_o4 : n0 ≤ o4) (G_o5 : n0 ≤ o5) (G_o6 : n0 ≤ o6) (G_o7 : n0 ≤ o7) (G_o8 : n0 ≤ o8) (G_o9 : n0 ≤ o9) (G_o10 : n0 ≤ o10) (G_o11 : n0 ≤ o11) (G_o12 : n0 ≤ o12) (G_o13 : n0 ≤ o13) (G_o14 : n0 ≤ o14) (G_o15 : n0 ≤ o15) (nn_0 : Jvm.Free.Fl.NoNaN64 (FP.dadd (0 : UInt64) z0)) (nn_1 : Jvm.Free.Fl.NoNaN64 (FP.dmul z0 z1)) (nn_2 : Jvm.Free.Fl.NoNaN64 (FP.dadd (0 : UInt64) (FP.dmul z0 z1))) :
    Met false l Z n0 (⟨"com/example/torino/torino/AbsorbingChain", "addExit", "(IDD)V"⟩ : MethodName) prog_1_method_3_code 6 none ({ frames := 0, cells := 0, slots := 0, locals := 0 } : Room) #[(.ref o0), (.int (0 : Int32)), (.double z0), (.double z1)] h0 (fun v h => v = none ∧ Keep h0 h [o1, o2] ∧ Fa Z h o1 .double 2 (up (up (fun _ => (.double (0 : UInt64))) 0 (.double (FP.dadd (0 : UInt64) z0))) 1 (.double z2)) ∧ Fa Z h o2 .double 2 (up (up (fun _ => (.double (0 : UInt64))) 0 (.double (FP.dadd (0 : UInt64) (FP.dmul z0 z1)))) 1 (.double z3))) := by
  refine Met.of (plainFor_of_name pn_0) #[.val (.ref o0), .val (.int (0 : Int32)), .val (.double z0), .second, .val (.double z1), .second] (fun m => by first | (simp [entryFrame, mkF, argsToLocals, Value.category]; done) | rfl) ?_
  intro p e s m below meth c C
  refine Wk.st (g' := (mkF m 1 #[.val (.ref o0), .val (.int (0 : Int32)), .val (.double z0), .second, .val (.double z1), .second] [(.ref o0)])) (fun X t q => XS.aloadN X.here C.hx rfl (hb C.hby d3_0) rfl rfl q) ?_
  refine Wk.getF C (hw _ (List.mem_of_getElem? (i := 14) rfl)) Via.refl P4 d3_1 ?_
  show Wk _ p l e _ s m _ below meth c n0 _ h0 0 0 (mkF m 4 #[.val (.ref o0), .val (.int (0 : Int32)), .val (.double z0), .second, .val (.double z1), .second] [(.ref o1)])
  refine Wk.st (g' := (mkF m 5 #[.val (.ref o0), .val (.int (0 : Int32)), .val (.double z0), .second, .val (.double z1), .second] [(.int (0 : Int32)), (.ref o1)])) (fun X t q => XS.iloadN X.here C.hx rfl (hb C.hby d3_4) rfl q) ?_
  refine Wk.st (g' := (mkF m 6 #[.val (.ref o0), .val (.int (0 : Int32)), .val (.double z0), .second, .val (.double z1), .second] [(.int (0 : Int32)), (.ref o1), (.int (0 : Int32)), (.ref o1)])) (fun X t q => XT.dup2 X.here C.hx rfl (hb C.hby d3_5) rfl rfl rfl q) ?_
  refine Wk.fLdD C P40 (i := 0) (by decide) (by decide) (by decide) (v := (.double (0 : UInt64))) (by simp [up]) d3_6 ?_
  show Wk _ p l e _ s m _ below meth c n0 _ h0 0 0 (mkF m 7 #[.val (.ref o0), .val (.int (0 : Int32)), .val (.double z0), .second, .val (.double z1), .second] [(.double (0 : UInt64)), (.int (0 : Int32)), (.ref o1)])
  refine Wk.st (g' := (mkF m 8 #[.val (.ref o0), .val (.int (0 : Int32)), .val (.double z0), .second, .val (.double z1), .second] [(.double z0), (.double (0 : UInt64)), (.int (0 : Int32)), (.ref o1)])) (fun X t q => XS.dloadN X.here C.hx rfl (hb C.hby d3_7) rfl q) ?_
  refine Wk.st (g' := (mkF m 9 #[.val (.ref o0), .val (.int (0 : Int32)), .val (.double z0), .second, .val (.double z1), .second] [(.double (FP.dadd (0 : UInt64) z0)), (.int (0 : Int32)), (.ref o1)])) (fun X t q => XS.daddS X.here C.hx rfl (hb C.hby d3_8) rfl nn_0 rfl q) ?_
  refine Wk.fStD C P40 (i := 0) (by decide) (by decide) (by decide) G_o1 d3_9 ?_
  intro h1 W2 F3
  have F4 : Exa Z h1 o0 "com/example/torino/torino/AbsorbingChain" := P0.wr W2
  have F5 : Fld Z h1 o0 "com/example/torino/torino/AbsorbingChain" "markedRow" "I" (.int (-1 : Int32)) := P1.other W2 (Or.inl N_o0_o1)
  have F6 : Fld Z h1 o0 "com/example/torino/torino/AbsorbingChain" "size" "I" (.int (2 : Int32)) := P2.other W2 (Or.inl N_o0_o1)
  have F7 : Exa Z h1 o1 "[D" := P3.wr W2
  have F8 : Fld Z h1 o0 "com/example/torino/torino/AbsorbingChain" "exitProbabilities" "[D" (.ref o1) := P4.other W2 (Or.inl N_o0_o1)
  have F9 : Exa Z h1 o2 "[D" := P5.wr W2
  have F10 : Fld Z h1 o0 "com/example/torino/torino/AbsorbingChain" "exitValues" "[D" (.ref o2) := P6.other W2 (Or.inl N_o0_o1)
  have F11 : Exa Z h1 o3 "[[I" := P7.wr W2
  have F12 : Fld Z h1 o0 "com/example/torino/torino/AbsorbingChain" "nexts" "[[I" (.ref o3) := P8.other W2 (Or.inl N_o0_o1)
  have F13 : Exa Z h1 o4 "[[D" := P9.wr W2
  have F14 : Fld Z h1 o0 "com/example/torino/torino/AbsorbingChain" "probabilities" "[[D" (.ref o4) := P10.other W2 (Or.inl N_o0_o1)
  have F15 : Exa Z h1 o5 "[I" := P11.wr W2
  have F16 : Fa Z h1 o5 .int 2 (fun _ => (.int (0 : Int32))) := P12.other W2 (Ne.symm N_o1_o5)
  have F17 : Fld Z h1 o0 "com/example/torino/torino/AbsorbingChain" "lengths" "[I" (.ref o5) := P13.other W2 (Or.inl N_o0_o1)
  have F18 : Exa Z h1 o6 "[[I" := P14.wr W2
  have F19 : Fld Z h1 o0 "com/example/torino/torino/AbsorbingChain" "predecessors" "[[I" (.ref o6) := P15.other W2 (Or.inl N_o0_o1)
  have F20 : Exa Z h1 o7 "[I" := P16.wr W2
  have F21 : Fa Z h1 o7 .int 2 (fun _ => (.int (0 : Int32))) := P17.other W2 (Ne.symm N_o1_o7)
  have F22 : Fld Z h1 o0 "com/example/torino/torino/AbsorbingChain" "predecessorCounts" "[I" (.ref o7) := P18.other W2 (Or.inl N_o0_o1)
  have F23 : Exa Z h1 o8 "[I" := P19.wr W2
  have F24 : Fa Z h1 o8 .int 2 (fun _ => (.int (0 : Int32))) := P20.other W2 (Ne.symm N_o1_o8)
  have F25 : Fld Z h1 o0 "com/example/torino/torino/AbsorbingChain" "entryMarks" "[I" (.ref o8) := P21.other W2 (Or.inl N_o0_o1)
  have F26 : Exa Z h1 o9 "[I" := P22.wr W2
  have F27 : Fa Z h1 o9 .int 2 (fun _ => (.int (0 : Int32))) := P23.other W2 (Ne.symm N_o1_o9)
  have F28 : Fld Z h1 o0 "com/example/torino/torino/AbsorbingChain" "entries" "[I" (.ref o9) := P24.other W2 (Or.inl N_o0_o1)
  have F29 : Exa Z h1 o10 "[I" := P25.wr W2
  have F30 : Fa Z h1 o10 .int 2 (fun _ => (.int (0 : Int32))) := P26.other W2 (Ne.symm N_o1_o10)
  have F31 : Exa Z h1 o12 "[D" := P27.wr W2
  have F32 : Fa Z h1 o12 .double 2 (fun _ => (.double (0 : UInt64))) := P28.other W2 (Ne.symm N_o1_o12)
  have F33 : Exa Z h1 o14 "[I" := P29.wr W2
  have F34 : Fa Z h1 o14 .int 2 (fun _ => (.int (0 : Int32))) := P30.other W2 (Ne.symm N_o1_o14)
  have F35 : Exa Z h1 o11 "[I" := P31.wr W2
  have F36 : Fa Z h1 o11 .int 2 (fun _ => (.int (0 : Int32))) := P32.other W2 (Ne.symm N_o1_o11)
  have F37 : FaA Z h1 o3 .int "[I" 2 (up (up (fun _ => .null) 0 (.ref o10)) 1 (.ref o11)) := P33.other W2 (Ne.symm N_o1_o3)
  have F38 : Exa Z h1 o13 "[D" := P34.wr W2
  have F39 : Fa Z h1 o13 .double 2 (fun _ => (.double (0 : UInt64))) := P35.other W2 (Ne.symm N_o1_o13)
  have F40 : FaA Z h1 o4 .double "[D" 2 (up (up (fun _ => .null) 0 (.ref o12)) 1 (.ref o13)) := P36.other W2 (Ne.symm N_o1_o4)
  have F41 : Exa Z h1 o15 "[I" := P37.wr W2
  have F42 : Fa Z h1 o15 .int 2 (fun _ => (.int (0 : Int32))) := P38.other W2 (Ne.symm N_o1_o15)
  have F43 : FaA Z h1 o6 .int "[I" 2 (up (up (fun _ => .null) 0 (.ref o14)) 1 (.ref o15)) := P39.other W2 (Ne.symm N_o1_o6)
  have F44 : Fa Z h1 o2 .double 2 (up (fun _ => (.double (0 : UInt64))) 1 (.double z3)) := P41.other W2 (Ne.symm N_o1_o2)
  have sz45 : n0 ≤ h1.size := Nat.le_trans hsz (Nat.le_of_eq W2.size.symm)
  have sy46 : h0.size ≤ h1.size := Nat.le_trans (Nat.le_refl h0.size) (Nat.le_of_eq W2.size.symm)
  have K47 := (Keep.refl h0 [o1, o2]).wr W2 (Or.inl (by simp))
  show Wk _ p l e _ s m _ below meth c n0 _ h1 0 0 (mkF m 10 #[.val (.ref o0), .val (.int (0 : Int32)), .val (.double z0), .second, .val (.double z1), .second] [])
  refine Wk.st (g' := (mkF m 11 #[.val (.ref o0), .val (.int (0 : Int32)), .val (.double z0), .second, .val (.double z1), .second] [(.ref o0)])) (fun X t q => XS.aloadN X.here C.hx rfl (hb C.hby d3_10) rfl rfl q) ?_
  refine Wk.getF C (hw _ (List.mem_of_getElem? (i := 16) rfl)) Via.refl F10 d3_11 ?_
  show Wk _ p l e _ s m _ below meth c n0 _ h1 0 0 (mkF m 14 #[.val (.ref o0), .val (.int (0 : Int32)), .val (.double z0), .second, .val (.double z1), .second] [(.ref o2)])
  refine Wk.st (g' := (mkF m 15 #[.val (.ref o0), .val (.int (0 : Int32)), .val (.double z0), .second, .val (.double z1), .second] [(.int (0 : Int32)), (.ref o2)])) (fun X t q => XS.iloadN X.here C.hx rfl (hb C.hby d3_14) rfl q) ?_
  refine Wk.st (g' := (mkF m 16 #[.val (.ref o0), .val (.int (0 : Int32)), .val (.double z0), .second, .val (.double z1), .second] [(.int (0 : Int32)), (.ref o2), (.int (0 : Int32)), (.ref o2)])) (fun X t q => XT.dup2 X.here C.hx rfl (hb C.hby d3_15) rfl rfl rfl q) ?_
  refine Wk.fLdD C F44 (i := 0) (by decide) (by decide) (by decide) (v := (.double (0 : UInt64))) (by simp [up]) d3_16 ?_
  show Wk _ p l e _ s m _ below meth c n0 _ h1 0 0 (mkF m 17 #[.val (.ref o0), .val (.int (0 : Int32)), .val (.double z0), .second, .val (.double z1), .second] [(.double (0 : UInt64)), (.int (0 : Int32)), (.ref o2)])
  refine Wk.st (g' := (mkF m 18 #[.val (.ref o0), .val (.int (0 : Int32)), .val (.double z0), .second, .val (.double z1), .second] [(.double z0), (.double (0 : UInt64)), (.int (0 : Int32)), (.ref o2)])) (fun X t q => XS.dloadN X.here C.hx rfl (hb C.hby d3_17) rfl q) ?_
  refine Wk.st (g' := (mkF m 20 #[.val (.ref o0), .val (.int (0 : Int32)), .val (.double z0), .second, .val (.double z1), .second] [(.double z1), (.double z0), (.double (0 : UInt64)), (.int (0 : Int32)), (.ref o2)])) (fun X t q => XS.dload X.here C.hx rfl (hb C.hby d3_18) rfl q) ?_
  refine Wk.st (g' := (mkF m 21 #[.val (.ref o0), .val (.int (0 : Int32)), .val (.double z0), .second, .val (.double z1), .second] [(.double (FP.dmul z0 z1)), (.double (0 : UInt64)), (.int (0 : Int32)), (.ref o2)])) (fun X t q => XS.dmulS X.here C.hx rfl (hb C.hby d3_20) rfl nn_1 rfl q) ?_
  refine Wk.st (g' := (mkF m 22 #[.val (.ref o0), .val (.int (0 : Int32)), .val (.double z0), .second, .val (.double z1), .second] [(.double (FP.dadd (0 : UInt64) (FP.dmul z0 z1))), (.int (0 : Int32)), (.ref o2)])) (fun X t q => XS.daddS X.here C.hx rfl (hb C.hby d3_21) rfl nn_2 rfl q) ?_
  refine Wk.fStD C F44 (i := 0) (by decide) (by decide) (by decide) G_o2 d3_22 ?_
  intro h48 W49 F50
  have F51 : Exa Z h48 o0 "com/example/torino/torino/AbsorbingChain" := F4.wr W49
  have F52 : Fld Z h48 o0 "com/example/torino/torino/AbsorbingChain" "markedRow" "I" (.int (-1 : Int32)) := F5.other W49 (Or.inl N_o0_o2)
  have F53 : Fld Z h48 o0 "com/example/torino/torino/AbsorbingChain" "size" "I" (.int (2 : Int32)) := F6.other W49 (Or.inl N_o0_o2)
  have F54 : Exa Z h48 o1 "[D" := F7.wr W49
  have F55 : Fld Z h48 o0 "com/example/torino/torino/AbsorbingChain" "exitProbabilities" "[D" (.ref o1) := F8.other W49 (Or.inl N_o0_o2)
  have F56 : Exa Z h48 o2 "[D" := F9.wr W49
  have F57 : Fld Z h48 o0 "com/example/torino/torino/AbsorbingChain" "exitValues" "[D" (.ref o2) := F10.other W49 (Or.inl N_o0_o2)
  have F58 : Exa Z h48 o3 "[[I" := F11.wr W49
  have F59 : Fld Z h48 o0 "com/example/torino/torino/AbsorbingChain" "nexts" "[[I" (.ref o3) := F12.other W49 (Or.inl N_o0_o2)
  have F60 : Exa Z h48 o4 "[[D" := F13.wr W49
  have F61 : Fld Z h48 o0 "com/example/torino/torino/AbsorbingChain" "probabilities" "[[D" (.ref o4) := F14.other W49 (Or.inl N_o0_o2)
  have F62 : Exa Z h48 o5 "[I" := F15.wr W49
  have F63 : Fa Z h48 o5 .int 2 (fun _ => (.int (0 : Int32))) := F16.other W49 (Ne.symm N_o2_o5)
  have F64 : Fld Z h48 o0 "com/example/torino/torino/AbsorbingChain" "lengths" "[I" (.ref o5) := F17.other W49 (Or.inl N_o0_o2)
  have F65 : Exa Z h48 o6 "[[I" := F18.wr W49
  have F66 : Fld Z h48 o0 "com/example/torino/torino/AbsorbingChain" "predecessors" "[[I" (.ref o6) := F19.other W49 (Or.inl N_o0_o2)
  have F67 : Exa Z h48 o7 "[I" := F20.wr W49
  have F68 : Fa Z h48 o7 .int 2 (fun _ => (.int (0 : Int32))) := F21.other W49 (Ne.symm N_o2_o7)
  have F69 : Fld Z h48 o0 "com/example/torino/torino/AbsorbingChain" "predecessorCounts" "[I" (.ref o7) := F22.other W49 (Or.inl N_o0_o2)
  have F70 : Exa Z h48 o8 "[I" := F23.wr W49
  have F71 : Fa Z h48 o8 .int 2 (fun _ => (.int (0 : Int32))) := F24.other W49 (Ne.symm N_o2_o8)
  have F72 : Fld Z h48 o0 "com/example/torino/torino/AbsorbingChain" "entryMarks" "[I" (.ref o8) := F25.other W49 (Or.inl N_o0_o2)
  have F73 : Exa Z h48 o9 "[I" := F26.wr W49
  have F74 : Fa Z h48 o9 .int 2 (fun _ => (.int (0 : Int32))) := F27.other W49 (Ne.symm N_o2_o9)
  have F75 : Fld Z h48 o0 "com/example/torino/torino/AbsorbingChain" "entries" "[I" (.ref o9) := F28.other W49 (Or.inl N_o0_o2)
  have F76 : Exa Z h48 o10 "[I" := F29.wr W49
  have F77 : Fa Z h48 o10 .int 2 (fun _ => (.int (0 : Int32))) := F30.other W49 (Ne.symm N_o2_o10)
  have F78 : Exa Z h48 o12 "[D" := F31.wr W49
  have F79 : Fa Z h48 o12 .double 2 (fun _ => (.double (0 : UInt64))) := F32.other W49 (Ne.symm N_o2_o12)
  have F80 : Exa Z h48 o14 "[I" := F33.wr W49
  have F81 : Fa Z h48 o14 .int 2 (fun _ => (.int (0 : Int32))) := F34.other W49 (Ne.symm N_o2_o14)
  have F82 : Exa Z h48 o11 "[I" := F35.wr W49
  have F83 : Fa Z h48 o11 .int 2 (fun _ => (.int (0 : Int32))) := F36.other W49 (Ne.symm N_o2_o11)
  have F84 : FaA Z h48 o3 .int "[I" 2 (up (up (fun _ => .null) 0 (.ref o10)) 1 (.ref o11)) := F37.other W49 (Ne.symm N_o2_o3)
  have F85 : Exa Z h48 o13 "[D" := F38.wr W49
  have F86 : Fa Z h48 o13 .double 2 (fun _ => (.double (0 : UInt64))) := F39.other W49 (Ne.symm N_o2_o13)
  have F87 : FaA Z h48 o4 .double "[D" 2 (up (up (fun _ => .null) 0 (.ref o12)) 1 (.ref o13)) := F40.other W49 (Ne.symm N_o2_o4)
  have F88 : Exa Z h48 o15 "[I" := F41.wr W49
  have F89 : Fa Z h48 o15 .int 2 (fun _ => (.int (0 : Int32))) := F42.other W49 (Ne.symm N_o2_o15)
  have F90 : FaA Z h48 o6 .int "[I" 2 (up (up (fun _ => .null) 0 (.ref o14)) 1 (.ref o15)) := F43.other W49 (Ne.symm N_o2_o6)
  have F91 : Fa Z h48 o1 .double 2 (up (up (fun _ => (.double (0 : UInt64))) 1 (.double z2)) 0 (.double (FP.dadd (0 : UInt64) z0))) := F3.other W49 N_o1_o2
  have sz92 : n0 ≤ h48.size := Nat.le_trans sz45 (Nat.le_of_eq W49.size.symm)
  have sy93 : h0.size ≤ h48.size := Nat.le_trans sy46 (Nat.le_of_eq W49.size.symm)
  have K94 := K47.wr W49 (Or.inl (by simp))
  show Wk _ p l e _ s m _ below meth c n0 _ h48 0 0 (mkF m 23 #[.val (.ref o0), .val (.int (0 : Int32)), .val (.double z0), .second, .val (.double z1), .second] [])
  exact Wk.retN0 C rfl d3_23 (by decide) (by decide) ⟨rfl, K94, F91.congr (fun i hi => by simp only [up]; (repeat' split) <;> first | rfl | (exfalso; omega)), F50.congr (fun i hi => by simp only [up]; (repeat' split) <;> first | rfl | (exfalso; omega))⟩
set_option maxRecDepth 65536 in
set_option maxHeartbeats 40000000 in
theorem own_3_7 (l : Launch) (Z : State) (a0 : Array Value) (hw : ∀ d ∈ tables_1, d.before a0 Z = true) (n0 : Nat) (h0 : Heap) (hsz : n0 ≤ h0.size) (o0 : Addr) (o1 : Addr) (o2 : Addr) (o3 : Addr) (o4 : Addr) (o5 : Addr) (o6 : Addr) (o7 : Addr) (o8 : Addr) (o9 : Addr) (o10 : Addr) (o11 : Addr) (o12 : Addr) (o13 : Addr) (o14 : Addr) (o15 : Addr) (z0 : UInt64) (z1 : UInt64) (z2 : UInt64) (z3 : UInt64) (z4 : UInt64) (z5 : UInt64) (P0 : Exa Z h0 o0 "com/example/torino/torino/AbsorbingChain") (P1 : Fld Z h0 o0 "com/example/torino/torino/AbsorbingChain" "markedRow" "I" (.int (-1 : Int32))) (P2 : Fld Z h0 o0 "com/example/torino/torino/AbsorbingChain" "size" "I" (.int (2 : Int32))) (P3 : Exa Z h0 o1 "[D") (P4 : Fld Z h0 o0 "com/example/torino/torino/AbsorbingChain" "exitProbabilities" "[D" (.ref o1)) (P5 : Exa Z h0 o2 "[D") (P6 : Fld Z h0 o0 "com/example/torino/torino/AbsorbingChain" "exitValues" "[D" (.ref o2)) (P7 : Exa Z h0 o3 "[[I") (P8 : Fld Z h0 o0 "com/example/torino/torino/AbsorbingChain" "nexts" "[[I" (.ref o3)) (P9 : Exa Z h0 o4 "[[D") (P10 : Fld Z h0 o0 "com/example/torino/torino/AbsorbingChain" "probabilities" "[[D" (.ref o4)) (P11 : Exa Z h0 o5 "[I") (P12 : Fa Z h0 o5 .int 2 (fun _ => (.int (0 : Int32)))) (P13 : Fld Z h0 o0 "com/example/torino/torino/AbsorbingChain" "lengths" "[I" (.ref o5)) (P14 : Exa Z h0 o6 "[[I") (P15 : Fld Z h0 o0 "com/example/torino/torino/AbsorbingChain" "predecessors" "[[I" (.ref o6)) (P16 : Exa Z h0 o7 "[I") (P17 : Fa Z h0 o7 .int 2 (fun _ => (.int (0 : Int32)))) (P18 : Fld Z h0 o0 "com/example/torino/torino/AbsorbingChain" "predecessorCounts" "[I" (.ref o7)) (P19 : Exa Z h0 o8 "[I") (P20 : Fa Z h0 o8 .int 2 (fun _ => (.int (0 : Int32)))) (P21 : Fld Z h0 o0 "com/example/torino/torino/AbsorbingChain" "entryMarks" "[I" (.ref o8)) (P22 : Exa Z h0 o9 "[I") (P23 : Fa Z h0 o9 .int 2 (fun _ => (.int (0 : Int32)))) (P24 : Fld Z h0 o0 "com/example/torino/torino/AbsorbingChain" "entries" "[I" (.ref o9)) (P25 : Exa Z h0 o10 "[I") (P26 : Fa Z h0 o10 .int 2 (fun _ => (.int (0 : Int32)))) (P27 : Exa Z h0 o12 "[D") (P28 : Fa Z h0 o12 .double 2 (fun _ => (.double (0 : UInt64)))) (P29 : Exa Z h0 o14 "[I") (P30 : Fa Z h0 o14 .int 2 (fun _ => (.int (0 : Int32)))) (P31 : Exa Z h0 o11 "[I") (P32 : Fa Z h0 o11 .int 2 (fun _ => (.int (0 : Int32)))) (P33 : FaA Z h0 o3 .int "[I" 2 (up (up (fun _ => .null) 0 (.ref o10)) 1 (.ref o11))) (P34 : Exa Z h0 o13 "[D") (P35 : Fa Z h0 o13 .double 2 (fun _ => (.double (0 : UInt64)))) (P36 : FaA Z h0 o4 .double "[D" 2 (up (up (fun _ => .null) 0 (.ref o12)) 1 (.ref o13))) (P37 : Exa Z h0 o15 "[I") (P38 : Fa Z h0 o15 .int 2 (fun _ => (.int (0 : Int32)))) (P39 : FaA Z h0 o6 .int "[I" 2 (up (up (fun _ => .null) 0 (.ref o14)) 1 (.ref o15))) (P40 : Fa Z h0 o1 .double 2 (up (up (fun _ => (.double (0 : UInt64))) 0 (.double z3)) 1 (.double z2))) (P41 : Fa Z h0 o2 .double 2 (up (up (fun _ => (.double (0 : UInt64))) 0 (.double z5)) 1 (.double z4))) (N_o0_o1 : o0 ≠ o1) (N_o0_o2 : o0 ≠ o2) (N_o0_o3 : o0 ≠ o3) (N_o0_o4 : o0 ≠ o4) (N_o0_o5 : o0 ≠ o5) (N_o0_o6 : o0 ≠ o6) (N_o0_o7 : o0 ≠ o7) (N_o0_o8 : o0 ≠ o8) (N_o0_o9 : o0 ≠ o9) (N_o0_o10 : o0 ≠ o10) (N_o0_o11 : o0 ≠ o11) (N_o0_o12 : o0 ≠ o12) (N_o0_o13 : o0 ≠ o13) (N_o0_o14 : o0 ≠ o14) (N_o0_o15 : o0 ≠ o15) (N_o1_o2 : o1 ≠ o2) (N_o1_o3 : o1 ≠ o3) (N_o1_o4 : o1 ≠ o4) (N_o1_o5 : o1 ≠ o5) (N_o1_o6 : o1 ≠ o6) (N_o1_o7 : o1 ≠ o7) (N_o1_o8 : o1 ≠ o8) (N_o1_o9 : o1 ≠ o9) (N_o1_o10 : o1 ≠ o10) (N_o1_o11 : o1 ≠ o11) (N_o1_o12 : o1 ≠ o12) (N_o1_o13 : o1 ≠ o13) (N_o1_o14 : o1 ≠ o14) (N_o1_o15 : o1 ≠ o15) (N_o2_o3 : o2 ≠ o3) (N_o2_o4 : o2 ≠ o4) (N_o2_o5 : o2 ≠ o5) (N_o2_o6 : o2 ≠ o6) (N_o2_o7 : o2 ≠ o7) (N_o2_o8 : o2 ≠ o8) (N_o2_o9 : o2 ≠ o9) (N_o2_o10 : o2 ≠ o10) (N_o2_o11 : o2 ≠ o11) (N_o2_o12 : o2 ≠ o12) (N_o2_o13 : o2 ≠ o13) (N_o2_o14 : o2 ≠ o14) (N_o2_o15 : o2 ≠ o15) (N_o3_o4 : o3 ≠ o4) (N_o3_o5 : o3 ≠ o5) (N_o3_o6 : o3 ≠ o6) (N_o3_o7 : o3 ≠ o7) (N_o3_o8 : o3 ≠ o8) (N_o3_o9 : o3 ≠ o9) (N_o3_o10 : o3 ≠ o10) (N_o3_o11 : o3 ≠ o11) (N_o3_o12 : o3 ≠ o12) (N_o3_o13 : o3 ≠ o13) (N_o3_o14 : o3 ≠ o14) (N_o3_o15 : o3 ≠ o15) (N_o4_o5 : o4 ≠ o5) (N_o4_o6 : o4 ≠ o6) (N_o4_o7 : o4 ≠ o7) (N_o4_o8 : o4 ≠ o8) (N_o4_o9 : o4 ≠ o9) (N_o4_o10 : o4 ≠ o10) (N_o4_o11 : o4 ≠ o11) (N_o4_o12 : o4 ≠ o12) (N_o4_o13 : o4 ≠ o13) (N_o4_o14 : o4 ≠ o14) (N_o4_o15 : o4 ≠ o15) (N_o5_o6 : o5 ≠ o6) (N_o5_o7 : o5 ≠ o7) (N_o5_o8 : o5 ≠ o8) (N_o5_o9 : o5 ≠ o9) (N_o5_o10 : o5 ≠ o10) (N_o5_o11 : o5 ≠ o11) (N_o5_o12 : o5 ≠ o12) (N_o5_o13 : o5 ≠ o13) (N_o5_o14 : o5 ≠ o14) (N_o5_o15 : o5 ≠ o15) (N_o6_o7 : o6 ≠ o7) (N_o6_o8 : o6 ≠ o8) (N_o6_o9 : o6 ≠ o9) (N_o6_o10 : o6 ≠ o10) (N_o6_o11 : o6 ≠ o11) (N_o6_o12 : o6 ≠ o12) (N_o6_o13 : o6 ≠ o13) (N_o6_o14 : o6 ≠ o14) (N_o6_o15 : o6 ≠ o15) (N_o7_o8 : o7 ≠ o8) (N_o7_o9 : o7 ≠ o9) (N_o7_o10 : o7 ≠ o10) (N_o7_o11 : o7 ≠ o11) (N_o7_o12 : o7 ≠ o12) (N_o7_o13 : o7 ≠ o13) (N_o7_o14 : o7 ≠ o14) (N_o7_o15 : o7 ≠ o15) (N_o8_o9 : o8 ≠ o9) (N_o8_o10 : o8 ≠ o10) (N_o8_o11 : o8 ≠ o11) (N_o8_o12 : o8 ≠ o12) (N_o8_o13 : o8 ≠ o13) (N_o8_o14 : o8 ≠ o14) (N_o8_o15 : o8 ≠ o15) (N_o9_o10 : o9 ≠ o10) (N_o9_o11 : o9 ≠ o11) (N_o9_o12 : o9 ≠ o12) (N_o9_o13 : o9 ≠ o13) (N_o9_o14 : o9 ≠ o14) (N_o9_o15 : o9 ≠ o15) (N_o10_o11 : o10 ≠ o11) (N_o10_o12 : o10 ≠ o12) (N_o10_o13 : o10 ≠ o13) (N_o10_o14 : o10 ≠ o14) (N_o10_o15 : o10 ≠ o15) (N_o11_o12 : o11 ≠ o12) (N_o11_o13 : o11 ≠ o13) (N_o11_o14 : o11 ≠ o14) (N_o11_o15 : o11 ≠ o15) (N_o12_o13 : o12 ≠ o13) (N_o12_o14 : o12 ≠ o14) (N_o12_o15 : o12 ≠ o15) (N_o13_o14 : o13 ≠ o14) (N_o13_o15 : o13 ≠ o15) (N_o14_o15 : o14 ≠ o15) (G_o0 : n0 ≤ o0) (G_o1 : n0 ≤ o1) (G_o2 : n0 ≤ o2) (G_o3 : n0 ≤ o3) (G_o4 : n0 ≤ o4) (G_o5 : n0 ≤ o5) (G_o6 : n0 ≤ o6) (G_o7 : n0 ≤ o7) (G_o8 : n0 ≤ o8) (G_o9 : n0 ≤ o9) (G_o10 : n0 ≤ o10) (G_o11 : n0 ≤ o11) (G_o12 : n0 ≤ o12) (G_o13 : n0 ≤ o13) (G_o14 : n0 ≤ o14) (G_o15 : n0 ≤ o15) (nn_0 : Jvm.Free.Fl.NoNaN64 (FP.dadd z2 z0)) (nn_1 : Jvm.Free.Fl.NoNaN64 (FP.dmul z0 z1)) (nn_2 : Jvm.Free.Fl.NoNaN64 (FP.dadd z4 (FP.dmul z0 z1))) :
    Met false l Z n0 (⟨"com/example/torino/torino/AbsorbingChain", "addExit", "(IDD)V"⟩ : MethodName) prog_1_method_3_code 6 none ({ frames := 0, cells := 0, slots := 0, locals := 0 } : Room) #[(.ref o0), (.int (1 : Int32)), (.double z0), (.double z1)] h0 (fun v h => v = none ∧ Keep h0 h [o1, o2] ∧ Fa Z h o1 .double 2 (up (up (fun _ => (.double (0 : UInt64))) 0 (.double z3)) 1 (.double (FP.dadd z2 z0))) ∧ Fa Z h o2 .double 2 (up (up (fun _ => (.double (0 : UInt64))) 0 (.double z5)) 1 (.double (FP.dadd z4 (FP.dmul z0 z1))))) := by
  refine Met.of (plainFor_of_name pn_0) #[.val (.ref o0), .val (.int (1 : Int32)), .val (.double z0), .second, .val (.double z1), .second] (fun m => by first | (simp [entryFrame, mkF, argsToLocals, Value.category]; done) | rfl) ?_
  intro p e s m below meth c C
  refine Wk.st (g' := (mkF m 1 #[.val (.ref o0), .val (.int (1 : Int32)), .val (.double z0), .second, .val (.double z1), .second] [(.ref o0)])) (fun X t q => XS.aloadN X.here C.hx rfl (hb C.hby d3_0) rfl rfl q) ?_
  refine Wk.getF C (hw _ (List.mem_of_getElem? (i := 14) rfl)) Via.refl P4 d3_1 ?_
  show Wk _ p l e _ s m _ below meth c n0 _ h0 0 0 (mkF m 4 #[.val (.ref o0), .val (.int (1 : Int32)), .val (.double z0), .second, .val (.double z1), .second] [(.ref o1)])
  refine Wk.st (g' := (mkF m 5 #[.val (.ref o0), .val (.int (1 : Int32)), .val (.double z0), .second, .val (.double z1), .second] [(.int (1 : Int32)), (.ref o1)])) (fun X t q => XS.iloadN X.here C.hx rfl (hb C.hby d3_4) rfl q) ?_
  refine Wk.st (g' := (mkF m 6 #[.val (.ref o0), .val (.int (1 : Int32)), .val (.double z0), .second, .val (.double z1), .second] [(.int (1 : Int32)), (.ref o1), (.int (1 : Int32)), (.ref o1)])) (fun X t q => XT.dup2 X.here C.hx rfl (hb C.hby d3_5) rfl rfl rfl q) ?_
  refine Wk.fLdD C P40 (i := 1) (by decide) (by decide) (by decide) (v := (.double z2)) (by simp [up]) d3_6 ?_
  show Wk _ p l e _ s m _ below meth c n0 _ h0 0 0 (mkF m 7 #[.val (.ref o0), .val (.int (1 : Int32)), .val (.double z0), .second, .val (.double z1), .second] [(.double z2), (.int (1 : Int32)), (.ref o1)])
  refine Wk.st (g' := (mkF m 8 #[.val (.ref o0), .val (.int (1 : Int32)), .val (.double z0), .second, .val (.double z1), .second] [(.double z0), (.double z2), (.int (1 : Int32)), (.ref o1)])) (fun X t q => XS.dloadN X.here C.hx rfl (hb C.hby d3_7) rfl q) ?_
  refine Wk.st (g' := (mkF m 9 #[.val (.ref o0), .val (.int (1 : Int32)), .val (.double z0), .second, .val (.double z1), .second] [(.double (FP.dadd z2 z0)), (.int (1 : Int32)), (.ref o1)])) (fun X t q => XS.daddS X.here C.hx rfl (hb C.hby d3_8) rfl nn_0 rfl q) ?_
  refine Wk.fStD C P40 (i := 1) (by decide) (by decide) (by decide) G_o1 d3_9 ?_
  intro h1 W2 F3
  have F4 : Exa Z h1 o0 "com/example/torino/torino/AbsorbingChain" := P0.wr W2
  have F5 : Fld Z h1 o0 "com/example/torino/torino/AbsorbingChain" "markedRow" "I" (.int (-1 : Int32)) := P1.other W2 (Or.inl N_o0_o1)
  have F6 : Fld Z h1 o0 "com/example/torino/torino/AbsorbingChain" "size" "I" (.int (2 : Int32)) := P2.other W2 (Or.inl N_o0_o1)
  have F7 : Exa Z h1 o1 "[D" := P3.wr W2
  have F8 : Fld Z h1 o0 "com/example/torino/torino/AbsorbingChain" "exitProbabilities" "[D" (.ref o1) := P4.other W2 (Or.inl N_o0_o1)
  have F9 : Exa Z h1 o2 "[D" := P5.wr W2
  have F10 : Fld Z h1 o0 "com/example/torino/torino/AbsorbingChain" "exitValues" "[D" (.ref o2) := P6.other W2 (Or.inl N_o0_o1)
  have F11 : Exa Z h1 o3 "[[I" := P7.wr W2
  have F12 : Fld Z h1 o0 "com/example/torino/torino/AbsorbingChain" "nexts" "[[I" (.ref o3) := P8.other W2 (Or.inl N_o0_o1)
  have F13 : Exa Z h1 o4 "[[D" := P9.wr W2
  have F14 : Fld Z h1 o0 "com/example/torino/torino/AbsorbingChain" "probabilities" "[[D" (.ref o4) := P10.other W2 (Or.inl N_o0_o1)
  have F15 : Exa Z h1 o5 "[I" := P11.wr W2
  have F16 : Fa Z h1 o5 .int 2 (fun _ => (.int (0 : Int32))) := P12.other W2 (Ne.symm N_o1_o5)
  have F17 : Fld Z h1 o0 "com/example/torino/torino/AbsorbingChain" "lengths" "[I" (.ref o5) := P13.other W2 (Or.inl N_o0_o1)
  have F18 : Exa Z h1 o6 "[[I" := P14.wr W2
  have F19 : Fld Z h1 o0 "com/example/torino/torino/AbsorbingChain" "predecessors" "[[I" (.ref o6) := P15.other W2 (Or.inl N_o0_o1)
  have F20 : Exa Z h1 o7 "[I" := P16.wr W2
  have F21 : Fa Z h1 o7 .int 2 (fun _ => (.int (0 : Int32))) := P17.other W2 (Ne.symm N_o1_o7)
  have F22 : Fld Z h1 o0 "com/example/torino/torino/AbsorbingChain" "predecessorCounts" "[I" (.ref o7) := P18.other W2 (Or.inl N_o0_o1)
  have F23 : Exa Z h1 o8 "[I" := P19.wr W2
  have F24 : Fa Z h1 o8 .int 2 (fun _ => (.int (0 : Int32))) := P20.other W2 (Ne.symm N_o1_o8)
  have F25 : Fld Z h1 o0 "com/example/torino/torino/AbsorbingChain" "entryMarks" "[I" (.ref o8) := P21.other W2 (Or.inl N_o0_o1)
  have F26 : Exa Z h1 o9 "[I" := P22.wr W2
  have F27 : Fa Z h1 o9 .int 2 (fun _ => (.int (0 : Int32))) := P23.other W2 (Ne.symm N_o1_o9)
  have F28 : Fld Z h1 o0 "com/example/torino/torino/AbsorbingChain" "entries" "[I" (.ref o9) := P24.other W2 (Or.inl N_o0_o1)
  have F29 : Exa Z h1 o10 "[I" := P25.wr W2
  have F30 : Fa Z h1 o10 .int 2 (fun _ => (.int (0 : Int32))) := P26.other W2 (Ne.symm N_o1_o10)
  have F31 : Exa Z h1 o12 "[D" := P27.wr W2
  have F32 : Fa Z h1 o12 .double 2 (fun _ => (.double (0 : UInt64))) := P28.other W2 (Ne.symm N_o1_o12)
  have F33 : Exa Z h1 o14 "[I" := P29.wr W2
  have F34 : Fa Z h1 o14 .int 2 (fun _ => (.int (0 : Int32))) := P30.other W2 (Ne.symm N_o1_o14)
  have F35 : Exa Z h1 o11 "[I" := P31.wr W2
  have F36 : Fa Z h1 o11 .int 2 (fun _ => (.int (0 : Int32))) := P32.other W2 (Ne.symm N_o1_o11)
  have F37 : FaA Z h1 o3 .int "[I" 2 (up (up (fun _ => .null) 0 (.ref o10)) 1 (.ref o11)) := P33.other W2 (Ne.symm N_o1_o3)
  have F38 : Exa Z h1 o13 "[D" := P34.wr W2
  have F39 : Fa Z h1 o13 .double 2 (fun _ => (.double (0 : UInt64))) := P35.other W2 (Ne.symm N_o1_o13)
  have F40 : FaA Z h1 o4 .double "[D" 2 (up (up (fun _ => .null) 0 (.ref o12)) 1 (.ref o13)) := P36.other W2 (Ne.symm N_o1_o4)
  have F41 : Exa Z h1 o15 "[I" := P37.wr W2
  have F42 : Fa Z h1 o15 .int 2 (fun _ => (.int (0 : Int32))) := P38.other W2 (Ne.symm N_o1_o15)
  have F43 : FaA Z h1 o6 .int "[I" 2 (up (up (fun _ => .null) 0 (.ref o14)) 1 (.ref o15)) := P39.other W2 (Ne.symm N_o1_o6)
  have F44 : Fa Z h1 o2 .double 2 (up (up (fun _ => (.double (0 : UInt64))) 0 (.double z5)) 1 (.double z4)) := P41.other W2 (Ne.symm N_o1_o2)
  have sz45 : n0 ≤ h1.size := Nat.le_trans hsz (Nat.le_of_eq W2.size.symm)
  have sy46 : h0.size ≤ h1.size := Nat.le_trans (Nat.le_refl h0.size) (Nat.le_of_eq W2.size.symm)
  have K47 := (Keep.refl h0 [o1, o2]).wr W2 (Or.inl (by simp))
  show Wk _ p l e _ s m _ below meth c n0 _ h1 0 0 (mkF m 10 #[.val (.ref o0), .val (.int (1 : Int32)), .val (.double z0), .second, .val (.double z1), .second] [])
  refine Wk.st (g' := (mkF m 11 #[.val (.ref o0), .val (.int (1 : Int32)), .val (.double z0), .second, .val (.double z1), .second] [(.ref o0)])) (fun X t q => XS.aloadN X.here C.hx rfl (hb C.hby d3_10) rfl rfl q) ?_
  refine Wk.getF C (hw _ (List.mem_of_getElem? (i := 16) rfl)) Via.refl F10 d3_11 ?_
  show Wk _ p l e _ s m _ below meth c n0 _ h1 0 0 (mkF m 14 #[.val (.ref o0), .val (.int (1 : Int32)), .val (.double z0), .second, .val (.double z1), .second] [(.ref o2)])
  refine Wk.st (g' := (mkF m 15 #[.val (.ref o0), .val (.int (1 : Int32)), .val (.double z0), .second, .val (.double z1), .second] [(.int (1 : Int32)), (.ref o2)])) (fun X t q => XS.iloadN X.here C.hx rfl (hb C.hby d3_14) rfl q) ?_
  refine Wk.st (g' := (mkF m 16 #[.val (.ref o0), .val (.int (1 : Int32)), .val (.double z0), .second, .val (.double z1), .second] [(.int (1 : Int32)), (.ref o2), (.int (1 : Int32)), (.ref o2)])) (fun X t q => XT.dup2 X.here C.hx rfl (hb C.hby d3_15) rfl rfl rfl q) ?_
  refine Wk.fLdD C F44 (i := 1) (by decide) (by decide) (by decide) (v := (.double z4)) (by simp [up]) d3_16 ?_
  show Wk _ p l e _ s m _ below meth c n0 _ h1 0 0 (mkF m 17 #[.val (.ref o0), .val (.int (1 : Int32)), .val (.double z0), .second, .val (.double z1), .second] [(.double z4), (.int (1 : Int32)), (.ref o2)])
  refine Wk.st (g' := (mkF m 18 #[.val (.ref o0), .val (.int (1 : Int32)), .val (.double z0), .second, .val (.double z1), .second] [(.double z0), (.double z4), (.int (1 : Int32)), (.ref o2)])) (fun X t q => XS.dloadN X.here C.hx rfl (hb C.hby d3_17) rfl q) ?_
  refine Wk.st (g' := (mkF m 20 #[.val (.ref o0), .val (.int (1 : Int32)), .val (.double z0), .second, .val (.double z1), .second] [(.double z1), (.double z0), (.double z4), (.int (1 : Int32)), (.ref o2)])) (fun X t q => XS.dload X.here C.hx rfl (hb C.hby d3_18) rfl q) ?_
  refine Wk.st (g' := (mkF m 21 #[.val (.ref o0), .val (.int (1 : Int32)), .val (.double z0), .second, .val (.double z1), .second] [(.double (FP.dmul z0 z1)), (.double z4), (.int (1 : Int32)), (.ref o2)])) (fun X t q => XS.dmulS X.here C.hx rfl (hb C.hby d3_20) rfl nn_1 rfl q) ?_
  refine Wk.st (g' := (mkF m 22 #[.val (.ref o0), .val (.int (1 : Int32)), .val (.double z0), .second, .val (.double z1), .second] [(.double (FP.dadd z4 (FP.dmul z0 z1))), (.int (1 : Int32)), (.ref o2)])) (fun X t q => XS.daddS X.here C.hx rfl (hb C.hby d3_21) rfl nn_2 rfl q) ?_
  refine Wk.fStD C F44 (i := 1) (by decide) (by decide) (by decide) G_o2 d3_22 ?_
  intro h48 W49 F50
  have F51 : Exa Z h48 o0 "com/example/torino/torino/AbsorbingChain" := F4.wr W49
  have F52 : Fld Z h48 o0 "com/example/torino/torino/AbsorbingChain" "markedRow" "I" (.int (-1 : Int32)) := F5.other W49 (Or.inl N_o0_o2)
  have F53 : Fld Z h48 o0 "com/example/torino/torino/AbsorbingChain" "size" "I" (.int (2 : Int32)) := F6.other W49 (Or.inl N_o0_o2)
  have F54 : Exa Z h48 o1 "[D" := F7.wr W49
  have F55 : Fld Z h48 o0 "com/example/torino/torino/AbsorbingChain" "exitProbabilities" "[D" (.ref o1) := F8.other W49 (Or.inl N_o0_o2)
  have F56 : Exa Z h48 o2 "[D" := F9.wr W49
  have F57 : Fld Z h48 o0 "com/example/torino/torino/AbsorbingChain" "exitValues" "[D" (.ref o2) := F10.other W49 (Or.inl N_o0_o2)
  have F58 : Exa Z h48 o3 "[[I" := F11.wr W49
  have F59 : Fld Z h48 o0 "com/example/torino/torino/AbsorbingChain" "nexts" "[[I" (.ref o3) := F12.other W49 (Or.inl N_o0_o2)
  have F60 : Exa Z h48 o4 "[[D" := F13.wr W49
  have F61 : Fld Z h48 o0 "com/example/torino/torino/AbsorbingChain" "probabilities" "[[D" (.ref o4) := F14.other W49 (Or.inl N_o0_o2)
  have F62 : Exa Z h48 o5 "[I" := F15.wr W49
  have F63 : Fa Z h48 o5 .int 2 (fun _ => (.int (0 : Int32))) := F16.other W49 (Ne.symm N_o2_o5)
  have F64 : Fld Z h48 o0 "com/example/torino/torino/AbsorbingChain" "lengths" "[I" (.ref o5) := F17.other W49 (Or.inl N_o0_o2)
  have F65 : Exa Z h48 o6 "[[I" := F18.wr W49
  have F66 : Fld Z h48 o0 "com/example/torino/torino/AbsorbingChain" "predecessors" "[[I" (.ref o6) := F19.other W49 (Or.inl N_o0_o2)
  have F67 : Exa Z h48 o7 "[I" := F20.wr W49
  have F68 : Fa Z h48 o7 .int 2 (fun _ => (.int (0 : Int32))) := F21.other W49 (Ne.symm N_o2_o7)
  have F69 : Fld Z h48 o0 "com/example/torino/torino/AbsorbingChain" "predecessorCounts" "[I" (.ref o7) := F22.other W49 (Or.inl N_o0_o2)
  have F70 : Exa Z h48 o8 "[I" := F23.wr W49
  have F71 : Fa Z h48 o8 .int 2 (fun _ => (.int (0 : Int32))) := F24.other W49 (Ne.symm N_o2_o8)
  have F72 : Fld Z h48 o0 "com/example/torino/torino/AbsorbingChain" "entryMarks" "[I" (.ref o8) := F25.other W49 (Or.inl N_o0_o2)
  have F73 : Exa Z h48 o9 "[I" := F26.wr W49
  have F74 : Fa Z h48 o9 .int 2 (fun _ => (.int (0 : Int32))) := F27.other W49 (Ne.symm N_o2_o9)
  have F75 : Fld Z h48 o0 "com/example/torino/torino/AbsorbingChain" "entries" "[I" (.ref o9) := F28.other W49 (Or.inl N_o0_o2)
  have F76 : Exa Z h48 o10 "[I" := F29.wr W49
  have F77 : Fa Z h48 o10 .int 2 (fun _ => (.int (0 : Int32))) := F30.other W49 (Ne.symm N_o2_o10)
  have F78 : Exa Z h48 o12 "[D" := F31.wr W49
  have F79 : Fa Z h48 o12 .double 2 (fun _ => (.double (0 : UInt64))) := F32.other W49 (Ne.symm N_o2_o12)
  have F80 : Exa Z h48 o14 "[I" := F33.wr W49
  have F81 : Fa Z h48 o14 .int 2 (fun _ => (.int (0 : Int32))) := F34.other W49 (Ne.symm N_o2_o14)
  have F82 : Exa Z h48 o11 "[I" := F35.wr W49
  have F83 : Fa Z h48 o11 .int 2 (fun _ => (.int (0 : Int32))) := F36.other W49 (Ne.symm N_o2_o11)
  have F84 : FaA Z h48 o3 .int "[I" 2 (up (up (fun _ => .null) 0 (.ref o10)) 1 (.ref o11)) := F37.other W49 (Ne.symm N_o2_o3)
  have F85 : Exa Z h48 o13 "[D" := F38.wr W49
  have F86 : Fa Z h48 o13 .double 2 (fun _ => (.double (0 : UInt64))) := F39.other W49 (Ne.symm N_o2_o13)
  have F87 : FaA Z h48 o4 .double "[D" 2 (up (up (fun _ => .null) 0 (.ref o12)) 1 (.ref o13)) := F40.other W49 (Ne.symm N_o2_o4)
  have F88 : Exa Z h48 o15 "[I" := F41.wr W49
  have F89 : Fa Z h48 o15 .int 2 (fun _ => (.int (0 : Int32))) := F42.other W49 (Ne.symm N_o2_o15)
  have F90 : FaA Z h48 o6 .int "[I" 2 (up (up (fun _ => .null) 0 (.ref o14)) 1 (.ref o15)) := F43.other W49 (Ne.symm N_o2_o6)
  have F91 : Fa Z h48 o1 .double 2 (up (up (up (fun _ => (.double (0 : UInt64))) 0 (.double z3)) 1 (.double z2)) 1 (.double (FP.dadd z2 z0))) := F3.other W49 N_o1_o2
  have sz92 : n0 ≤ h48.size := Nat.le_trans sz45 (Nat.le_of_eq W49.size.symm)
  have sy93 : h0.size ≤ h48.size := Nat.le_trans sy46 (Nat.le_of_eq W49.size.symm)
  have K94 := K47.wr W49 (Or.inl (by simp))
  show Wk _ p l e _ s m _ below meth c n0 _ h48 0 0 (mkF m 23 #[.val (.ref o0), .val (.int (1 : Int32)), .val (.double z0), .second, .val (.double z1), .second] [])
  exact Wk.retN0 C rfl d3_23 (by decide) (by decide) ⟨rfl, K94, F91.congr (fun i hi => by simp only [up]; (repeat' split) <;> first | rfl | (exfalso; omega)), F50.congr (fun i hi => by simp only [up]; (repeat' split) <;> first | rfl | (exfalso; omega))⟩
set_option maxRecDepth 65536 in
set_option maxHeartbeats 40000000 in
theorem own_4_8 (l : Launch) (Z : State) (a0 : Array Value) (hw : ∀ d ∈ tables_1, d.before a0 Z = true) (n0 : Nat) (h0 : Heap) (hsz : n0 ≤ h0.size) (o0 : Addr) (o1 : Addr) (o2 : Addr) (o3 : Addr) (o4 : Addr) (o5 : Addr) (o6 : Addr) (o7 : Addr) (o8 : Addr) (o9 : Addr) (o10 : Addr) (o11 : Addr) (o12 : Addr) (o13 : Addr) (o14 : Addr) (o15 : Addr) (z0 : UInt64) (z1 : UInt64) (z2 : UInt64) (z3 : UInt64) (P0 : Exa Z h0 o0 "com/example/torino/torino/AbsorbingChain") (P1 : Fld Z h0 o0 "com/example/torino/torino/AbsorbingChain" "markedRow" "I" (.int (-1 : Int32))) (P2 : Fld Z h0 o0 "com/example/torino/torino/AbsorbingChain" "size" "I" (.int (2 : Int32))) (P3 : Exa Z h0 o1 "[D") (P4 : Fld Z h0 o0 "com/example/torino/torino/AbsorbingChain" "exitProbabilities" "[D" (.ref o1)) (P5 : Exa Z h0 o2 "[D") (P6 : Fld Z h0 o0 "com/example/torino/torino/AbsorbingChain" "exitValues" "[D" (.ref o2)) (P7 : Exa Z h0 o3 "[[I") (P8 : Fld Z h0 o0 "com/example/torino/torino/AbsorbingChain" "nexts" "[[I" (.ref o3)) (P9 : Exa Z h0 o4 "[[D") (P10 : Fld Z h0 o0 "com/example/torino/torino/AbsorbingChain" "probabilities" "[[D" (.ref o4)) (P11 : Exa Z h0 o5 "[I") (P12 : Fa Z h0 o5 .int 2 (fun _ => (.int (0 : Int32)))) (P13 : Fld Z h0 o0 "com/example/torino/torino/AbsorbingChain" "lengths" "[I" (.ref o5)) (P14 : Exa Z h0 o6 "[[I") (P15 : Fld Z h0 o0 "com/example/torino/torino/AbsorbingChain" "predecessors" "[[I" (.ref o6)) (P16 : Exa Z h0 o7 "[I") (P17 : Fa Z h0 o7 .int 2 (fun _ => (.int (0 : Int32)))) (P18 : Fld Z h0 o0 "com/example/torino/torino/AbsorbingChain" "predecessorCounts" "[I" (.ref o7)) (P19 : Exa Z h0 o8 "[I") (P20 : Fa Z h0 o8 .int 2 (fun _ => (.int (0 : Int32)))) (P21 : Fld Z h0 o0 "com/example/torino/torino/AbsorbingChain" "entryMarks" "[I" (.ref o8)) (P22 : Exa Z h0 o9 "[I") (P23 : Fa Z h0 o9 .int 2 (fun _ => (.int (0 : Int32)))) (P24 : Fld Z h0 o0 "com/example/torino/torino/AbsorbingChain" "entries" "[I" (.ref o9)) (P25 : Exa Z h0 o10 "[I") (P26 : Fa Z h0 o10 .int 2 (fun _ => (.int (0 : Int32)))) (P27 : Exa Z h0 o12 "[D") (P28 : Fa Z h0 o12 .double 2 (fun _ => (.double (0 : UInt64)))) (P29 : Exa Z h0 o14 "[I") (P30 : Fa Z h0 o14 .int 2 (fun _ => (.int (0 : Int32)))) (P31 : Exa Z h0 o11 "[I") (P32 : Fa Z h0 o11 .int 2 (fun _ => (.int (0 : Int32)))) (P33 : FaA Z h0 o3 .int "[I" 2 (up (up (fun _ => .null) 0 (.ref o10)) 1 (.ref o11))) (P34 : Exa Z h0 o13 "[D") (P35 : Fa Z h0 o13 .double 2 (fun _ => (.double (0 : UInt64)))) (P36 : FaA Z h0 o4 .double "[D" 2 (up (up (fun _ => .null) 0 (.ref o12)) 1 (.ref o13))) (P37 : Exa Z h0 o15 "[I") (P38 : Fa Z h0 o15 .int 2 (fun _ => (.int (0 : Int32)))) (P39 : FaA Z h0 o6 .int "[I" 2 (up (up (fun _ => .null) 0 (.ref o14)) 1 (.ref o15))) (P40 : Fa Z h0 o1 .double 2 (up (up (fun _ => (.double (0 : UInt64))) 0 (.double z1)) 1 (.double z0))) (P41 : Fa Z h0 o2 .double 2 (up (up (fun _ => (.double (0 : UInt64))) 0 (.double z3)) 1 (.double z2))) (N_o0_o1 : o0 ≠ o1) (N_o0_o2 : o0 ≠ o2) (N_o0_o3 : o0 ≠ o3) (N_o0_o4 : o0 ≠ o4) (N_o0_o5 : o0 ≠ o5) (N_o0_o6 : o0 ≠ o6) (N_o0_o7 : o0 ≠ o7) (N_o0_o8 : o0 ≠ o8) (N_o0_o9 : o0 ≠ o9) (N_o0_o10 : o0 ≠ o10) (N_o0_o11 : o0 ≠ o11) (N_o0_o12 : o0 ≠ o12) (N_o0_o13 : o0 ≠ o13) (N_o0_o14 : o0 ≠ o14) (N_o0_o15 : o0 ≠ o15) (N_o1_o2 : o1 ≠ o2) (N_o1_o3 : o1 ≠ o3) (N_o1_o4 : o1 ≠ o4) (N_o1_o5 : o1 ≠ o5) (N_o1_o6 : o1 ≠ o6) (N_o1_o7 : o1 ≠ o7) (N_o1_o8 : o1 ≠ o8) (N_o1_o9 : o1 ≠ o9) (N_o1_o10 : o1 ≠ o10) (N_o1_o11 : o1 ≠ o11) (N_o1_o12 : o1 ≠ o12) (N_o1_o13 : o1 ≠ o13) (N_o1_o14 : o1 ≠ o14) (N_o1_o15 : o1 ≠ o15) (N_o2_o3 : o2 ≠ o3) (N_o2_o4 : o2 ≠ o4) (N_o2_o5 : o2 ≠ o5) (N_o2_o6 : o2 ≠ o6) (N_o2_o7 : o2 ≠ o7) (N_o2_o8 : o2 ≠ o8) (N_o2_o9 : o2 ≠ o9) (N_o2_o10 : o2 ≠ o10) (N_o2_o11 : o2 ≠ o11) (N_o2_o12 : o2 ≠ o12) (N_o2_o13 : o2 ≠ o13) (N_o2_o14 : o2 ≠ o14) (N_o2_o15 : o2 ≠ o15) (N_o3_o4 : o3 ≠ o4) (N_o3_o5 : o3 ≠ o5) (N_o3_o6 : o3 ≠ o6) (N_o3_o7 : o3 ≠ o7) (N_o3_o8 : o3 ≠ o8) (N_o3_o9 : o3 ≠ o9) (N_o3_o10 : o3 ≠ o10) (N_o3_o11 : o3 ≠ o11) (N_o3_o12 : o3 ≠ o12) (N_o3_o13 : o3 ≠ o13) (N_o3_o14 : o3 ≠ o14) (N_o3_o15 : o3 ≠ o15) (N_o4_o5 : o4 ≠ o5) (N_o4_o6 : o4 ≠ o6) (N_o4_o7 : o4 ≠ o7) (N_o4_o8 : o4 ≠ o8) (N_o4_o9 : o4 ≠ o9) (N_o4_o10 : o4 ≠ o10) (N_o4_o11 : o4 ≠ o11) (N_o4_o12 : o4 ≠ o12) (N_o4_o13 : o4 ≠ o13) (N_o4_o14 : o4 ≠ o14) (N_o4_o15 : o4 ≠ o15) (N_o5_o6 : o5 ≠ o6) (N_o5_o7 : o5 ≠ o7) (N_o5_o8 : o5 ≠ o8) (N_o5_o9 : o5 ≠ o9) (N_o5_o10 : o5 ≠ o10) (N_o5_o11 : o5 ≠ o11) (N_o5_o12 : o5 ≠ o12) (N_o5_o13 : o5 ≠ o13) (N_o5_o14 : o5 ≠ o14) (N_o5_o15 : o5 ≠ o15) (N_o6_o7 : o6 ≠ o7) (N_o6_o8 : o6 ≠ o8) (N_o6_o9 : o6 ≠ o9) (N_o6_o10 : o6 ≠ o10) (N_o6_o11 : o6 ≠ o11) (N_o6_o12 : o6 ≠ o12) (N_o6_o13 : o6 ≠ o13) (N_o6_o14 : o6 ≠ o14) (N_o6_o15 : o6 ≠ o15) (N_o7_o8 : o7 ≠ o8) (N_o7_o9 : o7 ≠ o9) (N_o7_o10 : o7 ≠ o10) (N_o7_o11 : o7 ≠ o11) (N_o7_o12 : o7 ≠ o12) (N_o7_o13 : o7 ≠ o13) (N_o7_o14 : o7 ≠ o14) (N_o7_o15 : o7 ≠ o15) (N_o8_o9 : o8 ≠ o9) (N_o8_o10 : o8 ≠ o10) (N_o8_o11 : o8 ≠ o11) (N_o8_o12 : o8 ≠ o12) (N_o8_o13 : o8 ≠ o13) (N_o8_o14 : o8 ≠ o14) (N_o8_o15 : o8 ≠ o15) (N_o9_o10 : o9 ≠ o10) (N_o9_o11 : o9 ≠ o11) (N_o9_o12 : o9 ≠ o12) (N_o9_o13 : o9 ≠ o13) (N_o9_o14 : o9 ≠ o14) (N_o9_o15 : o9 ≠ o15) (N_o10_o11 : o10 ≠ o11) (N_o10_o12 : o10 ≠ o12) (N_o10_o13 : o10 ≠ o13) (N_o10_o14 : o10 ≠ o14) (N_o10_o15 : o10 ≠ o15) (N_o11_o12 : o11 ≠ o12) (N_o11_o13 : o11 ≠ o13) (N_o11_o14 : o11 ≠ o14) (N_o11_o15 : o11 ≠ o15) (N_o12_o13 : o12 ≠ o13) (N_o12_o14 : o12 ≠ o14) (N_o12_o15 : o12 ≠ o15) (N_o13_o14 : o13 ≠ o14) (N_o13_o15 : o13 ≠ o15) (N_o14_o15 : o14 ≠ o15) (G_o0 : n0 ≤ o0) (G_o1 : n0 ≤ o1) (G_o2 : n0 ≤ o2) (G_o3 : n0 ≤ o3) (G_o4 : n0 ≤ o4) (G_o5 : n0 ≤ o5) (G_o6 : n0 ≤ o6) (G_o7 : n0 ≤ o7) (G_o8 : n0 ≤ o8) (G_o9 : n0 ≤ o9) (G_o10 : n0 ≤ o10) (G_o11 : n0 ≤ o11) (G_o12 : n0 ≤ o12) (G_o13 : n0 ≤ o13) (G_o14 : n0 ≤ o14) (G_o15 : n0 ≤ o15) (nn_0 : Jvm.Free.Fl.NoNaN64 (FP.ddiv z2 z0)) (nn_1 : Jvm.Free.Fl.NoNaN64 (FP.ddiv z3 z1)) :
    Met false l Z n0 (⟨"com/example/torino/torino/AbsorbingChain", "solve", "(J)[D"⟩ : MethodName) prog_1_method_5_code 11 (some (.array .double)) ({ frames := 0, cells := 2, slots := 4, locals := 0 } : Room) #[(.ref o0), (.long (1000 : Int64))] h0 (fun v h => ∃ b169 : Addr, v = some (.ref b169) ∧ Keep h0 h [] ∧ h0.size ≤ b169 ∧ Exa Z h b169 "[D" ∧ Fa Z h b169 .double 2 (up (up (fun _ => (.double (0 : UInt64))) 0 (.double (FP.ddiv z3 z1))) 1 (.double (FP.ddiv z2 z0)))) := by
  refine Met.of (plainFor_of_name pn_0) #[.val (.ref o0), .val (.long (1000 : Int64)), .second, .unset, .unset, .unset, .unset, .unset, .unset, .unset, .unset] (fun m => by first | (simp [entryFrame, mkF, argsToLocals, Value.category]; done) | rfl) ?_
  intro p e s m below meth c C
  refine Wk.st (g' := (mkF m 1 #[.val (.ref o0), .val (.long (1000 : Int64)), .second, .unset, .unset, .unset, .unset, .unset, .unset, .unset, .unset] [(.ref o0)])) (fun X t q => XS.aloadN X.here C.hx rfl (hb C.hby d4_0) rfl rfl q) ?_
  refine Wk.getF C (hw _ (List.mem_of_getElem? (i := 11) rfl)) Via.refl P2 d4_1 ?_
  show Wk _ p l e _ s m _ below meth c n0 _ h0 0 0 (mkF m 4 #[.val (.ref o0), .val (.long (1000 : Int64)), .second, .unset, .unset, .unset, .unset, .unset, .unset, .unset, .unset] [(.int (2 : Int32))])
  refine Wk.fNewP C (hw _ (List.mem_of_getElem? (i := 13) rfl)) (ty := .double) (dv := (.double (0 : UInt64))) (N := 2) (ad := "[D") rfl rfl (by decide) (by decide) (by decide) (cap := 2) (by decide) (by decide) d4_4 (by decide) (by decide) ?_
  intro h1 b2 g3 E4 A5 F6
  have ne7 : o0 ≠ b2 := Nat.ne_of_lt (Nat.lt_of_lt_of_le P0.lt (Nat.le_of_eq g3.symm))
  have ne8 : o1 ≠ b2 := Nat.ne_of_lt (Nat.lt_of_lt_of_le P3.lt (Nat.le_of_eq g3.symm))
  have ne9 : o2 ≠ b2 := Nat.ne_of_lt (Nat.lt_of_lt_of_le P5.lt (Nat.le_of_eq g3.symm))
  have ne10 : o3 ≠ b2 := Nat.ne_of_lt (Nat.lt_of_lt_of_le P7.lt (Nat.le_of_eq g3.symm))
  have ne11 : o4 ≠ b2 := Nat.ne_of_lt (Nat.lt_of_lt_of_le P9.lt (Nat.le_of_eq g3.symm))
  have ne12 : o5 ≠ b2 := Nat.ne_of_lt (Nat.lt_of_lt_of_le P11.lt (Nat.le_of_eq g3.symm))
  have ne13 : o6 ≠ b2 := Nat.ne_of_lt (Nat.lt_of_lt_of_le P14.lt (Nat.le_of_eq g3.symm))
  have ne14 : o7 ≠ b2 := Nat.ne_of_lt (Nat.lt_of_lt_of_le P16.lt (Nat.le_of_eq g3.symm))
  have ne15 : o8 ≠ b2 := Nat.ne_of_lt (Nat.lt_of_lt_of_le P19.lt (Nat.le_of_eq g3.symm))
  have ne16 : o9 ≠ b2 := Nat.ne_of_lt (Nat.lt_of_lt_of_le P22.lt (Nat.le_of_eq g3.symm))
  have ne17 : o10 ≠ b2 := Nat.ne_of_lt (Nat.lt_of_lt_of_le P25.lt (Nat.le_of_eq g3.symm))
  have ne18 : o12 ≠ b2 := Nat.ne_of_lt (Nat.lt_of_lt_of_le P27.lt (Nat.le_of_eq g3.symm))
  have ne19 : o14 ≠ b2 := Nat.ne_of_lt (Nat.lt_of_lt_of_le P29.lt (Nat.le_of_eq g3.symm))
  have ne20 : o11 ≠ b2 := Nat.ne_of_lt (Nat.lt_of_lt_of_le P31.lt (Nat.le_of_eq g3.symm))
  have ne21 : o13 ≠ b2 := Nat.ne_of_lt (Nat.lt_of_lt_of_le P34.lt (Nat.le_of_eq g3.symm))
  have ne22 : o15 ≠ b2 := Nat.ne_of_lt (Nat.lt_of_lt_of_le P37.lt (Nat.le_of_eq g3.symm))
  have ge23 : n0 ≤ b2 := Nat.le_trans hsz (Nat.le_of_eq g3.symm)
  have gz24 : h0.size ≤ b2 := Nat.le_trans (Nat.le_refl h0.size) (Nat.le_of_eq g3.symm)
  have F25 : Exa Z h1 o0 "com/example/torino/torino/AbsorbingChain" := P0.ext E4
  have F26 : Fld Z h1 o0 "com/example/torino/torino/AbsorbingChain" "markedRow" "I" (.int (-1 : Int32)) := P1.ext E4
  have F27 : Fld Z h1 o0 "com/example/torino/torino/AbsorbingChain" "size" "I" (.int (2 : Int32)) := P2.ext E4
  have F28 : Exa Z h1 o1 "[D" := P3.ext E4
  have F29 : Fld Z h1 o0 "com/example/torino/torino/AbsorbingChain" "exitProbabilities" "[D" (.ref o1) := P4.ext E4
  have F30 : Exa Z h1 o2 "[D" := P5.ext E4
  have F31 : Fld Z h1 o0 "com/example/torino/torino/AbsorbingChain" "exitValues" "[D" (.ref o2) := P6.ext E4
  have F32 : Exa Z h1 o3 "[[I" := P7.ext E4
  have F33 : Fld Z h1 o0 "com/example/torino/torino/AbsorbingChain" "nexts" "[[I" (.ref o3) := P8.ext E4
  have F34 : Exa Z h1 o4 "[[D" := P9.ext E4
  have F35 : Fld Z h1 o0 "com/example/torino/torino/AbsorbingChain" "probabilities" "[[D" (.ref o4) := P10.ext E4
  have F36 : Exa Z h1 o5 "[I" := P11.ext E4
  have F37 : Fa Z h1 o5 .int 2 (fun _ => (.int (0 : Int32))) := P12.ext E4
  have F38 : Fld Z h1 o0 "com/example/torino/torino/AbsorbingChain" "lengths" "[I" (.ref o5) := P13.ext E4
  have F39 : Exa Z h1 o6 "[[I" := P14.ext E4
  have F40 : Fld Z h1 o0 "com/example/torino/torino/AbsorbingChain" "predecessors" "[[I" (.ref o6) := P15.ext E4
  have F41 : Exa Z h1 o7 "[I" := P16.ext E4
  have F42 : Fa Z h1 o7 .int 2 (fun _ => (.int (0 : Int32))) := P17.ext E4
  have F43 : Fld Z h1 o0 "com/example/torino/torino/AbsorbingChain" "predecessorCounts" "[I" (.ref o7) := P18.ext E4
  have F44 : Exa Z h1 o8 "[I" := P19.ext E4
  have F45 : Fa Z h1 o8 .int 2 (fun _ => (.int (0 : Int32))) := P20.ext E4
  have F46 : Fld Z h1 o0 "com/example/torino/torino/AbsorbingChain" "entryMarks" "[I" (.ref o8) := P21.ext E4
  have F47 : Exa Z h1 o9 "[I" := P22.ext E4
  have F48 : Fa Z h1 o9 .int 2 (fun _ => (.int (0 : Int32))) := P23.ext E4
  have F49 : Fld Z h1 o0 "com/example/torino/torino/AbsorbingChain" "entries" "[I" (.ref o9) := P24.ext E4
  have F50 : Exa Z h1 o10 "[I" := P25.ext E4
  have F51 : Fa Z h1 o10 .int 2 (fun _ => (.int (0 : Int32))) := P26.ext E4
  have F52 : Exa Z h1 o12 "[D" := P27.ext E4
  have F53 : Fa Z h1 o12 .double 2 (fun _ => (.double (0 : UInt64))) := P28.ext E4
  have F54 : Exa Z h1 o14 "[I" := P29.ext E4
  have F55 : Fa Z h1 o14 .int 2 (fun _ => (.int (0 : Int32))) := P30.ext E4
  have F56 : Exa Z h1 o11 "[I" := P31.ext E4
  have F57 : Fa Z h1 o11 .int 2 (fun _ => (.int (0 : Int32))) := P32.ext E4
  have F58 : FaA Z h1 o3 .int "[I" 2 (up (up (fun _ => .null) 0 (.ref o10)) 1 (.ref o11)) := P33.ext E4
  have F59 : Exa Z h1 o13 "[D" := P34.ext E4
  have F60 : Fa Z h1 o13 .double 2 (fun _ => (.double (0 : UInt64))) := P35.ext E4
  have F61 : FaA Z h1 o4 .double "[D" 2 (up (up (fun _ => .null) 0 (.ref o12)) 1 (.ref o13)) := P36.ext E4
  have F62 : Exa Z h1 o15 "[I" := P37.ext E4
  have F63 : Fa Z h1 o15 .int 2 (fun _ => (.int (0 : Int32))) := P38.ext E4
  have F64 : FaA Z h1 o6 .int "[I" 2 (up (up (fun _ => .null) 0 (.ref o14)) 1 (.ref o15)) := P39.ext E4
  have F65 : Fa Z h1 o1 .double 2 (up (up (fun _ => (.double (0 : UInt64))) 0 (.double z1)) 1 (.double z0)) := P40.ext E4
  have F66 : Fa Z h1 o2 .double 2 (up (up (fun _ => (.double (0 : UInt64))) 0 (.double z3)) 1 (.double z2)) := P41.ext E4
  have sz67 : n0 ≤ h1.size := Nat.le_trans hsz E4.1
  have sy68 : h0.size ≤ h1.size := Nat.le_trans (Nat.le_refl h0.size) E4.1
  have K69 := (Keep.refl h0 []).ext E4
  show Wk _ p l e _ s m _ below meth c n0 _ h1 1 2 (mkF m 6 #[.val (.ref o0), .val (.long (1000 : Int64)), .second, .unset, .unset, .unset, .unset, .unset, .unset, .unset, .unset] [(.ref b2)])
  refine Wk.st (g' := (mkF m 7 #[.val (.ref o0), .val (.long (1000 : Int64)), .second, .val (.ref b2), .unset, .unset, .unset, .unset, .unset, .unset, .unset] [])) (fun X t q => XS.astoreN X.here C.hx rfl (hb C.hby d4_6) rfl rfl (l' := #[.val (.ref o0), .val (.long (1000 : Int64)), .second, .val (.ref b2), .unset, .unset, .unset, .unset, .unset, .unset, .unset]) rfl q) ?_
  refine Wk.st (g' := (mkF m 8 #[.val (.ref o0), .val (.long (1000 : Int64)), .second, .val (.ref b2), .unset, .unset, .unset, .unset, .unset, .unset, .unset] [(.long (0 : Int64))])) (fun X t q => XS.lconst X.here C.hx rfl (hb C.hby d4_7) q) ?_
  refine Wk.st (g' := (mkF m 10 #[.val (.ref o0), .val (.long (1000 : Int64)), .second, .val (.ref b2), .val (.long (0 : Int64)), .second, .unset, .unset, .unset, .unset, .unset] [])) (fun X t q => XS.lstore X.here C.hx rfl (hb C.hby d4_8) rfl (l' := #[.val (.ref o0), .val (.long (1000 : Int64)), .second, .val (.ref b2), .val (.long (0 : Int64)), .second, .unset, .unset, .unset, .unset, .unset]) rfl q) ?_
  refine Wk.st (g' := (mkF m 11 #[.val (.ref o0), .val (.long (1000 : Int64)), .second, .val (.ref b2), .val (.long (0 : Int64)), .second, .unset, .unset, .unset, .unset, .unset] [(.int (0 : Int32))])) (fun X t q => XS.iconst X.here C.hx rfl (hb C.hby d4_10) q) ?_
  refine Wk.st (g' := (mkF m 13 #[.val (.ref o0), .val (.long (1000 : Int64)), .second, .val (.ref b2), .val (.long (0 : Int64)), .second, .val (.int (0 : Int32)), .unset, .unset, .unset, .unset] [])) (fun X t q => XS.istore X.here C.hx rfl (hb C.hby d4_11) rfl (l' := #[.val (.ref o0), .val (.long (1000 : Int64)), .second, .val (.ref b2), .val (.long (0 : Int64)), .second, .val (.int (0 : Int32)), .unset, .unset, .unset, .unset]) rfl q) ?_
  refine Wk.st (g' := (mkF m 15 #[.val (.ref o0), .val (.long (1000 : Int64)), .second, .val (.ref b2), .val (.long (0 : Int64)), .second, .val (.int (0 : Int32)), .unset, .unset, .unset, .unset] [(.int (0 : Int32))])) (fun X t q => XS.iload X.here C.hx rfl (hb C.hby d4_13) rfl q) ?_
  refine Wk.st (g' := (mkF m 16 #[.val (.ref o0), .val (.long (1000 : Int64)), .second, .val (.ref b2), .val (.long (0 : Int64)), .second, .val (.int (0 : Int32)), .unset, .unset, .unset, .unset] [(.ref o0), (.int (0 : Int32))])) (fun X t q => XS.aloadN X.here C.hx rfl (hb C.hby d4_15) rfl rfl q) ?_
  refine Wk.getF C (hw _ (List.mem_of_getElem? (i := 11) rfl)) Via.refl F27 d4_16 ?_
  show Wk _ p l e _ s m _ below meth c n0 _ h1 1 2 (mkF m 19 #[.val (.ref o0), .val (.long (1000 : Int64)), .second, .val (.ref b2), .val (.long (0 : Int64)), .second, .val (.int (0 : Int32)), .unset, .unset, .unset, .unset] [(.int (2 : Int32)), (.int (0 : Int32))])
  refine Wk.st (g' := (mkF m 22 #[.val (.ref o0), .val (.long (1000 : Int64)), .second, .val (.ref b2), .val (.long (0 : Int64)), .second, .val (.int (0 : Int32)), .unset, .unset, .unset, .unset] [])) (fun X t q => XS.icmpNo X.here C.hx rfl (hb C.hby d4_19) rfl (XT.ii_ge_f (by decide)) q) ?_
  refine Wk.st (g' := (mkF m 24 #[.val (.ref o0), .val (.long (1000 : Int64)), .second, .val (.ref b2), .val (.long (0 : Int64)), .second, .val (.int (0 : Int32)), .unset, .unset, .unset, .unset] [(.long (0 : Int64))])) (fun X t q => XS.lload X.here C.hx rfl (hb C.hby d4_22) rfl q) ?_
  refine Wk.st (g' := (mkF m 25 #[.val (.ref o0), .val (.long (1000 : Int64)), .second, .val (.ref b2), .val (.long (0 : Int64)), .second, .val (.int (0 : Int32)), .unset, .unset, .unset, .unset] [(.long (1000 : Int64)), (.long (0 : Int64))])) (fun X t q => XS.lloadN X.here C.hx rfl (hb C.hby d4_24) rfl q) ?_
  refine Wk.st (g' := (mkF m 26 #[.val (.ref o0), .val (.long (1000 : Int64)), .second, .val (.ref b2), .val (.long (0 : Int64)), .second, .val (.int (0 : Int32)), .unset, .unset, .unset, .unset] [(.int (XT.cmpL (0 : Int64) (1000 : Int64)))])) (fun X t q => XT.lcmp X.here C.hx rfl (hb C.hby d4_25) rfl q) ?_
  refine Wk.st (g' := (mkF m 29 #[.val (.ref o0), .val (.long (1000 : Int64)), .second, .val (.ref b2), .val (.long (0 : Int64)), .second, .val (.int (0 : Int32)), .unset, .unset, .unset, .unset] [])) (fun X t q => XS.ifNo X.here C.hx rfl (hb C.hby d4_26) rfl (XT.ll_gt_f (by decide)) q) ?_
  refine Wk.st (g' := (mkF m 30 #[.val (.ref o0), .val (.long (1000 : Int64)), .second, .val (.ref b2), .val (.long (0 : Int64)), .second, .val (.int (0 : Int32)), .unset, .unset, .unset, .unset] [(.ref b2)])) (fun X t q => XS.aloadN X.here C.hx rfl (hb C.hby d4_29) rfl rfl q) ?_
  refine Wk.st (g' := (mkF m 32 #[.val (.ref o0), .val (.long (1000 : Int64)), .second, .val (.ref b2), .val (.long (0 : Int64)), .second, .val (.int (0 : Int32)), .unset, .unset, .unset, .unset] [(.int (0 : Int32)), (.ref b2)])) (fun X t q => XS.iload X.here C.hx rfl (hb C.hby d4_30) rfl q) ?_
  refine Wk.st (g' := (mkF m 33 #[.val (.ref o0), .val (.long (1000 : Int64)), .second, .val (.ref b2), .val (.long (0 : Int64)), .second, .val (.int (0 : Int32)), .unset, .unset, .unset, .unset] [(.ref o0), (.int (0 : Int32)), (.ref b2)])) (fun X t q => XS.aloadN X.here C.hx rfl (hb C.hby d4_32) rfl rfl q) ?_
  refine Wk.getF C (hw _ (List.mem_of_getElem? (i := 14) rfl)) Via.refl F29 d4_33 ?_
  show Wk _ p l e _ s m _ below meth c n0 _ h1 1 2 (mkF m 36 #[.val (.ref o0), .val (.long (1000 : Int64)), .second, .val (.ref b2), .val (.long (0 : Int64)), .second, .val (.int (0 : Int32)), .unset, .unset, .unset, .unset] [(.ref o1), (.int (0 : Int32)), (.ref b2)])
  refine Wk.st (g' := (mkF m 38 #[.val (.ref o0), .val (.long (1000 : Int64)), .second, .val (.ref b2), .val (.long (0 : Int64)), .second, .val (.int (0 : Int32)), .unset, .unset, .unset, .unset] [(.int (0 : Int32)), (.ref o1), (.int (0 : Int32)), (.ref b2)])) (fun X t q => XS.iload X.here C.hx rfl (hb C.hby d4_36) rfl q) ?_
  refine Wk.fLdD C F65 (i := 0) (by decide) (by decide) (by decide) (v := (.double z1)) (by simp [up]) d4_38 ?_
  show Wk _ p l e _ s m _ below meth c n0 _ h1 1 2 (mkF m 39 #[.val (.ref o0), .val (.long (1000 : Int64)), .second, .val (.ref b2), .val (.long (0 : Int64)), .second, .val (.int (0 : Int32)), .unset, .unset, .unset, .unset] [(.double z1), (.int (0 : Int32)), (.ref b2)])
  refine Wk.fStD C F6 (i := 0) (by decide) (by decide) (by decide) ge23 d4_39 ?_
  intro h70 W71 F72
  have F73 : Exa Z h70 o0 "com/example/torino/torino/AbsorbingChain" := F25.wr W71
  have F74 : Fld Z h70 o0 "com/example/torino/torino/AbsorbingChain" "markedRow" "I" (.int (-1 : Int32)) := F26.other W71 (Or.inl ne7)
  have F75 : Fld Z h70 o0 "com/example/torino/torino/AbsorbingChain" "size" "I" (.int (2 : Int32)) := F27.other W71 (Or.inl ne7)
  have F76 : Exa Z h70 o1 "[D" := F28.wr W71
  have F77 : Fld Z h70 o0 "com/example/torino/torino/AbsorbingChain" "exitProbabilities" "[D" (.ref o1) := F29.other W71 (Or.inl ne7)
  have F78 : Exa Z h70 o2 "[D" := F30.wr W71
  have F79 : Fld Z h70 o0 "com/example/torino/torino/AbsorbingChain" "exitValues" "[D" (.ref o2) := F31.other W71 (Or.inl ne7)
  have F80 : Exa Z h70 o3 "[[I" := F32.wr W71
  have F81 : Fld Z h70 o0 "com/example/torino/torino/AbsorbingChain" "nexts" "[[I" (.ref o3) := F33.other W71 (Or.inl ne7)
  have F82 : Exa Z h70 o4 "[[D" := F34.wr W71
  have F83 : Fld Z h70 o0 "com/example/torino/torino/AbsorbingChain" "probabilities" "[[D" (.ref o4) := F35.other W71 (Or.inl ne7)
  have F84 : Exa Z h70 o5 "[I" := F36.wr W71
  have F85 : Fa Z h70 o5 .int 2 (fun _ => (.int (0 : Int32))) := F37.other W71 ne12
  have F86 : Fld Z h70 o0 "com/example/torino/torino/AbsorbingChain" "lengths" "[I" (.ref o5) := F38.other W71 (Or.inl ne7)
  have F87 : Exa Z h70 o6 "[[I" := F39.wr W71
  have F88 : Fld Z h70 o0 "com/example/torino/torino/AbsorbingChain" "predecessors" "[[I" (.ref o6) := F40.other W71 (Or.inl ne7)
  have F89 : Exa Z h70 o7 "[I" := F41.wr W71
  have F90 : Fa Z h70 o7 .int 2 (fun _ => (.int (0 : Int32))) := F42.other W71 ne14
  have F91 : Fld Z h70 o0 "com/example/torino/torino/AbsorbingChain" "predecessorCounts" "[I" (.ref o7) := F43.other W71 (Or.inl ne7)
  have F92 : Exa Z h70 o8 "[I" := F44.wr W71
  have F93 : Fa Z h70 o8 .int 2 (fun _ => (.int (0 : Int32))) := F45.other W71 ne15
  have F94 : Fld Z h70 o0 "com/example/torino/torino/AbsorbingChain" "entryMarks" "[I" (.ref o8) := F46.other W71 (Or.inl ne7)
  have F95 : Exa Z h70 o9 "[I" := F47.wr W71
  have F96 : Fa Z h70 o9 .int 2 (fun _ => (.int (0 : Int32))) := F48.other W71 ne16
  have F97 : Fld Z h70 o0 "com/example/torino/torino/AbsorbingChain" "entries" "[I" (.ref o9) := F49.other W71 (Or.inl ne7)
  have F98 : Exa Z h70 o10 "[I" := F50.wr W71
  have F99 : Fa Z h70 o10 .int 2 (fun _ => (.int (0 : Int32))) := F51.other W71 ne17
  have F100 : Exa Z h70 o12 "[D" := F52.wr W71
  have F101 : Fa Z h70 o12 .double 2 (fun _ => (.double (0 : UInt64))) := F53.other W71 ne18
  have F102 : Exa Z h70 o14 "[I" := F54.wr W71
  have F103 : Fa Z h70 o14 .int 2 (fun _ => (.int (0 : Int32))) := F55.other W71 ne19
  have F104 : Exa Z h70 o11 "[I" := F56.wr W71
  have F105 : Fa Z h70 o11 .int 2 (fun _ => (.int (0 : Int32))) := F57.other W71 ne20
  have F106 : FaA Z h70 o3 .int "[I" 2 (up (up (fun _ => .null) 0 (.ref o10)) 1 (.ref o11)) := F58.other W71 ne10
  have F107 : Exa Z h70 o13 "[D" := F59.wr W71
  have F108 : Fa Z h70 o13 .double 2 (fun _ => (.double (0 : UInt64))) := F60.other W71 ne21
  have F109 : FaA Z h70 o4 .double "[D" 2 (up (up (fun _ => .null) 0 (.ref o12)) 1 (.ref o13)) := F61.other W71 ne11
  have F110 : Exa Z h70 o15 "[I" := F62.wr W71
  have F111 : Fa Z h70 o15 .int 2 (fun _ => (.int (0 : Int32))) := F63.other W71 ne22
  have F112 : FaA Z h70 o6 .int "[I" 2 (up (up (fun _ => .null) 0 (.ref o14)) 1 (.ref o15)) := F64.other W71 ne13
  have F113 : Fa Z h70 o1 .double 2 (up (up (fun _ => (.double (0 : UInt64))) 0 (.double z1)) 1 (.double z0)) := F65.other W71 ne8
  have F114 : Fa Z h70 o2 .double 2 (up (up (fun _ => (.double (0 : UInt64))) 0 (.double z3)) 1 (.double z2)) := F66.other W71 ne9
  have F115 : Exa Z h70 b2 "[D" := A5.wr W71
  have sz116 : n0 ≤ h70.size := Nat.le_trans sz67 (Nat.le_of_eq W71.size.symm)
  have sy117 : h0.size ≤ h70.size := Nat.le_trans sy68 (Nat.le_of_eq W71.size.symm)
  have K118 := K69.wr W71 (Or.inr gz24)
  show Wk _ p l e _ s m _ below meth c n0 _ h70 1 2 (mkF m 40 #[.val (.ref o0), .val (.long (1000 : Int64)), .second, .val (.ref b2), .val (.long (0 : Int64)), .second, .val (.int (0 : Int32)), .unset, .unset, .unset, .unset] [])
  refine Wk.st (g' := (mkF m 41 #[.val (.ref o0), .val (.long (1000 : Int64)), .second, .val (.ref b2), .val (.long (0 : Int64)), .second, .val (.int (0 : Int32)), .unset, .unset, .unset, .unset] [(.int (0 : Int32))])) (fun X t q => XS.iconst X.here C.hx rfl (hb C.hby d4_40) q) ?_
  refine Wk.st (g' := (mkF m 43 #[.val (.ref o0), .val (.long (1000 : Int64)), .second, .val (.ref b2), .val (.long (0 : Int64)), .second, .val (.int (0 : Int32)), .val (.int (0 : Int32)), .unset, .unset, .unset] [])) (fun X t q => XS.istore X.here C.hx rfl (hb C.hby d4_41) rfl (l' := #[.val (.ref o0), .val (.long (1000 : Int64)), .second, .val (.ref b2), .val (.long (0 : Int64)), .second, .val (.int (0 : Int32)), .val (.int (0 : Int32)), .unset, .unset, .unset]) rfl q) ?_
  refine Wk.st (g' := (mkF m 45 #[.val (.ref o0), .val (.long (1000 : Int64)), .second, .val (.ref b2), .val (.long (0 : Int64)), .second, .val (.int (0 : Int32)), .val (.int (0 : Int32)), .unset, .unset, .unset] [(.int (0 : Int32))])) (fun X t q => XS.iload X.here C.hx rfl (hb C.hby d4_43) rfl q) ?_
  refine Wk.st (g' := (mkF m 46 #[.val (.ref o0), .val (.long (1000 : Int64)), .second, .val (.ref b2), .val (.long (0 : Int64)), .second, .val (.int (0 : Int32)), .val (.int (0 : Int32)), .unset, .unset, .unset] [(.ref o0), (.int (0 : Int32))])) (fun X t q => XS.aloadN X.here C.hx rfl (hb C.hby d4_45) rfl rfl q) ?_
  refine Wk.getF C (hw _ (List.mem_of_getElem? (i := 27) rfl)) Via.refl F86 d4_46 ?_
  show Wk _ p l e _ s m _ below meth c n0 _ h70 1 2 (mkF m 49 #[.val (.ref o0), .val (.long (1000 : Int64)), .second, .val (.ref b2), .val (.long (0 : Int64)), .second, .val (.int (0 : Int32)), .val (.int (0 : Int32)), .unset, .unset, .unset] [(.ref o5), (.int (0 : Int32))])
  refine Wk.st (g' := (mkF m 51 #[.val (.ref o0), .val (.long (1000 : Int64)), .second, .val (.ref b2), .val (.long (0 : Int64)), .second, .val (.int (0 : Int32)), .val (.int (0 : Int32)), .unset, .unset, .unset] [(.int (0 : Int32)), (.ref o5), (.int (0 : Int32))])) (fun X t q => XS.iload X.here C.hx rfl (hb C.hby d4_49) rfl q) ?_
  refine Wk.fLdI C F85 (i := 0) (by decide) (by decide) (by decide) (v := (.int (0 : Int32))) rfl d4_51 ?_
  show Wk _ p l e _ s m _ below meth c n0 _ h70 1 2 (mkF m 52 #[.val (.ref o0), .val (.long (1000 : Int64)), .second, .val (.ref b2), .val (.long (0 : Int64)), .second, .val (.int (0 : Int32)), .val (.int (0 : Int32)), .unset, .unset, .unset] [(.int (0 : Int32)), (.int (0 : Int32))])
  refine Wk.st (g' := (mkF m 78 #[.val (.ref o0), .val (.long (1000 : Int64)), .second, .val (.ref b2), .val (.long (0 : Int64)), .second, .val (.int (0 : Int32)), .val (.int (0 : Int32)), .unset, .unset, .unset] [])) (fun X t q => XS.icmpYes X.here C.hx rfl (pc0 := 52) (pc' := 78) rfl (hb C.hby d4_52) rfl (XT.ii_ge_t (by decide)) (by decide) (by decide) q) ?_
  refine Wk.st (g' := (mkF m 79 #[.val (.ref o0), .val (.long (1000 : Int64)), .second, .val (.ref b2), .val (.long (0 : Int64)), .second, .val (.int (0 : Int32)), .val (.int (0 : Int32)), .unset, .unset, .unset] [(.int (0 : Int32))])) (fun X t q => XS.iconst X.here C.hx rfl (hb C.hby d4_78) q) ?_
  refine Wk.st (g' := (mkF m 81 #[.val (.ref o0), .val (.long (1000 : Int64)), .second, .val (.ref b2), .val (.long (0 : Int64)), .second, .val (.int (0 : Int32)), .val (.int (0 : Int32)), .unset, .unset, .unset] [])) (fun X t q => XS.istore X.here C.hx rfl (hb C.hby d4_79) rfl (l' := #[.val (.ref o0), .val (.long (1000 : Int64)), .second, .val (.ref b2), .val (.long (0 : Int64)), .second, .val (.int (0 : Int32)), .val (.int (0 : Int32)), .unset, .unset, .unset]) rfl q) ?_
  refine Wk.st (g' := (mkF m 83 #[.val (.ref o0), .val (.long (1000 : Int64)), .second, .val (.ref b2), .val (.long (0 : Int64)), .second, .val (.int (0 : Int32)), .val (.int (0 : Int32)), .unset, .unset, .unset] [(.int (0 : Int32))])) (fun X t q => XS.iload X.here C.hx rfl (hb C.hby d4_81) rfl q) ?_
  refine Wk.st (g' := (mkF m 84 #[.val (.ref o0), .val (.long (1000 : Int64)), .second, .val (.ref b2), .val (.long (0 : Int64)), .second, .val (.int (0 : Int32)), .val (.int (0 : Int32)), .unset, .unset, .unset] [(.ref o0), (.int (0 : Int32))])) (fun X t q => XS.aloadN X.here C.hx rfl (hb C.hby d4_83) rfl rfl q) ?_
  refine Wk.getF C (hw _ (List.mem_of_getElem? (i := 31) rfl)) Via.refl F91 d4_84 ?_
  show Wk _ p l e _ s m _ below meth c n0 _ h70 1 2 (mkF m 87 #[.val (.ref o0), .val (.long (1000 : Int64)), .second, .val (.ref b2), .val (.long (0 : Int64)), .second, .val (.int (0 : Int32)), .val (.int (0 : Int32)), .unset, .unset, .unset] [(.ref o7), (.int (0 : Int32))])
  refine Wk.st (g' := (mkF m 89 #[.val (.ref o0), .val (.long (1000 : Int64)), .second, .val (.ref b2), .val (.long (0 : Int64)), .second, .val (.int (0 : Int32)), .val (.int (0 : Int32)), .unset, .unset, .unset] [(.int (0 : Int32)), (.ref o7), (.int (0 : Int32))])) (fun X t q => XS.iload X.here C.hx rfl (hb C.hby d4_87) rfl q) ?_
  refine Wk.fLdI C F90 (i := 0) (by decide) (by decide) (by decide) (v := (.int (0 : Int32))) rfl d4_89 ?_
  show Wk _ p l e _ s m _ below meth c n0 _ h70 1 2 (mkF m 90 #[.val (.ref o0), .val (.long (1000 : Int64)), .second, .val (.ref b2), .val (.long (0 : Int64)), .second, .val (.int (0 : Int32)), .val (.int (0 : Int32)), .unset, .unset, .unset] [(.int (0 : Int32)), (.int (0 : Int32))])
  refine Wk.st (g' := (mkF m 151 #[.val (.ref o0), .val (.long (1000 : Int64)), .second, .val (.ref b2), .val (.long (0 : Int64)), .second, .val (.int (0 : Int32)), .val (.int (0 : Int32)), .unset, .unset, .unset] [])) (fun X t q => XS.icmpYes X.here C.hx rfl (pc0 := 90) (pc' := 151) rfl (hb C.hby d4_90) rfl (XT.ii_ge_t (by decide)) (by decide) (by decide) q) ?_
  refine Wk.st (g' := (mkF m 154 #[.val (.ref o0), .val (.long (1000 : Int64)), .second, .val (.ref b2), .val (.long (0 : Int64)), .second, .val (.int (1 : Int32)), .val (.int (0 : Int32)), .unset, .unset, .unset] [])) (fun X t q => XS.iinc X.here C.hx rfl (hb C.hby d4_151) rfl (l' := #[.val (.ref o0), .val (.long (1000 : Int64)), .second, .val (.ref b2), .val (.long (0 : Int64)), .second, .val (.int (1 : Int32)), .val (.int (0 : Int32)), .unset, .unset, .unset]) rfl q) ?_
  refine Wk.st (g' := (mkF m 13 #[.val (.ref o0), .val (.long (1000 : Int64)), .second, .val (.ref b2), .val (.long (0 : Int64)), .second, .val (.int (1 : Int32)), .val (.int (0 : Int32)), .unset, .unset, .unset] [])) (fun X t q => XS.goto X.here C.hx rfl (pc0 := 154) (pc' := 13) rfl (hb C.hby d4_154) (by decide) (by decide) q) ?_
  refine Wk.st (g' := (mkF m 15 #[.val (.ref o0), .val (.long (1000 : Int64)), .second, .val (.ref b2), .val (.long (0 : Int64)), .second, .val (.int (1 : Int32)), .val (.int (0 : Int32)), .unset, .unset, .unset] [(.int (1 : Int32))])) (fun X t q => XS.iload X.here C.hx rfl (hb C.hby d4_13) rfl q) ?_
  refine Wk.st (g' := (mkF m 16 #[.val (.ref o0), .val (.long (1000 : Int64)), .second, .val (.ref b2), .val (.long (0 : Int64)), .second, .val (.int (1 : Int32)), .val (.int (0 : Int32)), .unset, .unset, .unset] [(.ref o0), (.int (1 : Int32))])) (fun X t q => XS.aloadN X.here C.hx rfl (hb C.hby d4_15) rfl rfl q) ?_
  refine Wk.getF C (hw _ (List.mem_of_getElem? (i := 11) rfl)) Via.refl F75 d4_16 ?_
  show Wk _ p l e _ s m _ below meth c n0 _ h70 1 2 (mkF m 19 #[.val (.ref o0), .val (.long (1000 : Int64)), .second, .val (.ref b2), .val (.long (0 : Int64)), .second, .val (.int (1 : Int32)), .val (.int (0 : Int32)), .unset, .unset, .unset] [(.int (2 : Int32)), (.int (1 : Int32))])
  refine Wk.st (g' := (mkF m 22 #[.val (.ref o0), .val (.long (1000 : Int64)), .second, .val (.ref b2), .val (.long (0 : Int64)), .second, .val (.int (1 : Int32)), .val (.int (0 : Int32)), .unset, .unset, .unset] [])) (fun X t q => XS.icmpNo X.here C.hx rfl (hb C.hby d4_19) rfl (XT.ii_ge_f (by decide)) q) ?_
  refine Wk.st (g' := (mkF m 24 #[.val (.ref o0), .val (.long (1000 : Int64)), .second, .val (.ref b2), .val (.long (0 : Int64)), .second, .val (.int (1 : Int32)), .val (.int (0 : Int32)), .unset, .unset, .unset] [(.long (0 : Int64))])) (fun X t q => XS.lload X.here C.hx rfl (hb C.hby d4_22) rfl q) ?_
  refine Wk.st (g' := (mkF m 25 #[.val (.ref o0), .val (.long (1000 : Int64)), .second, .val (.ref b2), .val (.long (0 : Int64)), .second, .val (.int (1 : Int32)), .val (.int (0 : Int32)), .unset, .unset, .unset] [(.long (1000 : Int64)), (.long (0 : Int64))])) (fun X t q => XS.lloadN X.here C.hx rfl (hb C.hby d4_24) rfl q) ?_
  refine Wk.st (g' := (mkF m 26 #[.val (.ref o0), .val (.long (1000 : Int64)), .second, .val (.ref b2), .val (.long (0 : Int64)), .second, .val (.int (1 : Int32)), .val (.int (0 : Int32)), .unset, .unset, .unset] [(.int (XT.cmpL (0 : Int64) (1000 : Int64)))])) (fun X t q => XT.lcmp X.here C.hx rfl (hb C.hby d4_25) rfl q) ?_
  refine Wk.st (g' := (mkF m 29 #[.val (.ref o0), .val (.long (1000 : Int64)), .second, .val (.ref b2), .val (.long (0 : Int64)), .second, .val (.int (1 : Int32)), .val (.int (0 : Int32)), .unset, .unset, .unset] [])) (fun X t q => XS.ifNo X.here C.hx rfl (hb C.hby d4_26) rfl (XT.ll_gt_f (by decide)) q) ?_
  refine Wk.st (g' := (mkF m 30 #[.val (.ref o0), .val (.long (1000 : Int64)), .second, .val (.ref b2), .val (.long (0 : Int64)), .second, .val (.int (1 : Int32)), .val (.int (0 : Int32)), .unset, .unset, .unset] [(.ref b2)])) (fun X t q => XS.aloadN X.here C.hx rfl (hb C.hby d4_29) rfl rfl q) ?_
  refine Wk.st (g' := (mkF m 32 #[.val (.ref o0), .val (.long (1000 : Int64)), .second, .val (.ref b2), .val (.long (0 : Int64)), .second, .val (.int (1 : Int32)), .val (.int (0 : Int32)), .unset, .unset, .unset] [(.int (1 : Int32)), (.ref b2)])) (fun X t q => XS.iload X.here C.hx rfl (hb C.hby d4_30) rfl q) ?_
  refine Wk.st (g' := (mkF m 33 #[.val (.ref o0), .val (.long (1000 : Int64)), .second, .val (.ref b2), .val (.long (0 : Int64)), .second, .val (.int (1 : Int32)), .val (.int (0 : Int32)), .unset, .unset, .unset] [(.ref o0), (.int (1 : Int32)), (.ref b2)])) (fun X t q => XS.aloadN X.here C.hx rfl (hb C.hby d4_32) rfl rfl q) ?_
  refine Wk.getF C (hw _ (List.mem_of_getElem? (i := 14) rfl)) Via.refl F77 d4_33 ?_
  show Wk _ p l e _ s m _ below meth c n0 _ h70 1 2 (mkF m 36 #[.val (.ref o0), .val (.long (1000 : Int64)), .second, .val (.ref b2), .val (.long (0 : Int64)), .second, .val (.int (1 : Int32)), .val (.int (0 : Int32)), .unset, .unset, .unset] [(.ref o1), (.int (1 : Int32)), (.ref b2)])
  refine Wk.st (g' := (mkF m 38 #[.val (.ref o0), .val (.long (1000 : Int64)), .second, .val (.ref b2), .val (.long (0 : Int64)), .second, .val (.int (1 : Int32)), .val (.int (0 : Int32)), .unset, .unset, .unset] [(.int (1 : Int32)), (.ref o1), (.int (1 : Int32)), (.ref b2)])) (fun X t q => XS.iload X.here C.hx rfl (hb C.hby d4_36) rfl q) ?_
  refine Wk.fLdD C F113 (i := 1) (by decide) (by decide) (by decide) (v := (.double z0)) (by simp [up]) d4_38 ?_
  show Wk _ p l e _ s m _ below meth c n0 _ h70 1 2 (mkF m 39 #[.val (.ref o0), .val (.long (1000 : Int64)), .second, .val (.ref b2), .val (.long (0 : Int64)), .second, .val (.int (1 : Int32)), .val (.int (0 : Int32)), .unset, .unset, .unset] [(.double z0), (.int (1 : Int32)), (.ref b2)])
  refine Wk.fStD C F72 (i := 1) (by decide) (by decide) (by decide) ge23 d4_39 ?_
  intro h119 W120 F121
  have F122 : Exa Z h119 o0 "com/example/torino/torino/AbsorbingChain" := F73.wr W120
  have F123 : Fld Z h119 o0 "com/example/torino/torino/AbsorbingChain" "markedRow" "I" (.int (-1 : Int32)) := F74.other W120 (Or.inl ne7)
  have F124 : Fld Z h119 o0 "com/example/torino/torino/AbsorbingChain" "size" "I" (.int (2 : Int32)) := F75.other W120 (Or.inl ne7)
  have F125 : Exa Z h119 o1 "[D" := F76.wr W120
  have F126 : Fld Z h119 o0 "com/example/torino/torino/AbsorbingChain" "exitProbabilities" "[D" (.ref o1) := F77.other W120 (Or.inl ne7)
  have F127 : Exa Z h119 o2 "[D" := F78.wr W120
  have F128 : Fld Z h119 o0 "com/example/torino/torino/AbsorbingChain" "exitValues" "[D" (.ref o2) := F79.other W120 (Or.inl ne7)
  have F129 : Exa Z h119 o3 "[[I" := F80.wr W120
  have F130 : Fld Z h119 o0 "com/example/torino/torino/AbsorbingChain" "nexts" "[[I" (.ref o3) := F81.other W120 (Or.inl ne7)
  have F131 : Exa Z h119 o4 "[[D" := F82.wr W120
  have F132 : Fld Z h119 o0 "com/example/torino/torino/AbsorbingChain" "probabilities" "[[D" (.ref o4) := F83.other W120 (Or.inl ne7)
  have F133 : Exa Z h119 o5 "[I" := F84.wr W120
  have F134 : Fa Z h119 o5 .int 2 (fun _ => (.int (0 : Int32))) := F85.other W120 ne12
  have F135 : Fld Z h119 o0 "com/example/torino/torino/AbsorbingChain" "lengths" "[I" (.ref o5) := F86.other W120 (Or.inl ne7)
  have F136 : Exa Z h119 o6 "[[I" := F87.wr W120
  have F137 : Fld Z h119 o0 "com/example/torino/torino/AbsorbingChain" "predecessors" "[[I" (.ref o6) := F88.other W120 (Or.inl ne7)
  have F138 : Exa Z h119 o7 "[I" := F89.wr W120
  have F139 : Fa Z h119 o7 .int 2 (fun _ => (.int (0 : Int32))) := F90.other W120 ne14
  have F140 : Fld Z h119 o0 "com/example/torino/torino/AbsorbingChain" "predecessorCounts" "[I" (.ref o7) := F91.other W120 (Or.inl ne7)
  have F141 : Exa Z h119 o8 "[I" := F92.wr W120
  have F142 : Fa Z h119 o8 .int 2 (fun _ => (.int (0 : Int32))) := F93.other W120 ne15
  have F143 : Fld Z h119 o0 "com/example/torino/torino/AbsorbingChain" "entryMarks" "[I" (.ref o8) := F94.other W120 (Or.inl ne7)
  have F144 : Exa Z h119 o9 "[I" := F95.wr W120
  have F145 : Fa Z h119 o9 .int 2 (fun _ => (.int (0 : Int32))) := F96.other W120 ne16
  have F146 : Fld Z h119 o0 "com/example/torino/torino/AbsorbingChain" "entries" "[I" (.ref o9) := F97.other W120 (Or.inl ne7)
  have F147 : Exa Z h119 o10 "[I" := F98.wr W120
  have F148 : Fa Z h119 o10 .int 2 (fun _ => (.int (0 : Int32))) := F99.other W120 ne17
  have F149 : Exa Z h119 o12 "[D" := F100.wr W120
  have F150 : Fa Z h119 o12 .double 2 (fun _ => (.double (0 : UInt64))) := F101.other W120 ne18
  have F151 : Exa Z h119 o14 "[I" := F102.wr W120
  have F152 : Fa Z h119 o14 .int 2 (fun _ => (.int (0 : Int32))) := F103.other W120 ne19
  have F153 : Exa Z h119 o11 "[I" := F104.wr W120
  have F154 : Fa Z h119 o11 .int 2 (fun _ => (.int (0 : Int32))) := F105.other W120 ne20
  have F155 : FaA Z h119 o3 .int "[I" 2 (up (up (fun _ => .null) 0 (.ref o10)) 1 (.ref o11)) := F106.other W120 ne10
  have F156 : Exa Z h119 o13 "[D" := F107.wr W120
  have F157 : Fa Z h119 o13 .double 2 (fun _ => (.double (0 : UInt64))) := F108.other W120 ne21
  have F158 : FaA Z h119 o4 .double "[D" 2 (up (up (fun _ => .null) 0 (.ref o12)) 1 (.ref o13)) := F109.other W120 ne11
  have F159 : Exa Z h119 o15 "[I" := F110.wr W120
  have F160 : Fa Z h119 o15 .int 2 (fun _ => (.int (0 : Int32))) := F111.other W120 ne22
  have F161 : FaA Z h119 o6 .int "[I" 2 (up (up (fun _ => .null) 0 (.ref o14)) 1 (.ref o15)) := F112.other W120 ne13
  have F162 : Fa Z h119 o1 .double 2 (up (up (fun _ => (.double (0 : UInt64))) 0 (.double z1)) 1 (.double z0)) := F113.other W120 ne8
  have F163 : Fa Z h119 o2 .double 2 (up (up (fun _ => (.double (0 : UInt64))) 0 (.double z3)) 1 (.double z2)) := F114.other W120 ne9
  have F164 : Exa Z h119 b2 "[D" := F115.wr W120
  have sz165 : n0 ≤ h119.size := Nat.le_trans sz116 (Nat.le_of_eq W120.size.symm)
  have sy166 : h0.size ≤ h119.size := Nat.le_trans sy117 (Nat.le_of_eq W120.size.symm)
  have K167 := K118.wr W120 (Or.inr gz24)
  show Wk _ p l e _ s m _ below meth c n0 _ h119 1 2 (mkF m 40 #[.val (.ref o0), .val (.long (1000 : Int64)), .second, .val (.ref b2), .val (.long (0 : Int64)), .second, .val (.int (1 : Int32)), .val (.int (0 : Int32)), .unset, .unset, .unset] [])
  refine Wk.st (g' := (mkF m 41 #[.val (.ref o0), .val (.long (1000 : Int64)), .second, .val (.ref b2), .val (.long (0 : Int64)), .second, .val (.int (1 : Int32)), .val (.int (0 : Int32)), .unset, .unset, .unset] [(.int (0 : Int32))])) (fun X t q => XS.iconst X.here C.hx rfl (hb C.hby d4_40) q) ?_
  refine Wk.st (g' := (mkF m 43 #[.val (.ref o0), .val (.long (1000 : Int64)), .second, .val (.ref b2), .val (.long (0 : Int64)), .second, .val (.int (1 : Int32)), .val (.int (0 : Int32)), .unset, .unset, .unset] [])) (fun X t q => XS.istore X.here C.hx rfl (hb C.hby d4_41) rfl (l' := #[.val (.ref o0), .val (.long (1000 : Int64)), .second, .val (.ref b2), .val (.long (0 : Int64)), .second, .val (.int (1 : Int32)), .val (.int (0 : Int32)), .unset, .unset, .unset]) rfl q) ?_
  refine Wk.st (g' := (mkF m 45 #[.val (.ref o0), .val (.long (1000 : Int64)), .second, .val (.ref b2), .val (.long (0 : Int64)), .second, .val (.int (1 : Int32)), .val (.int (0 : Int32)), .unset, .unset, .unset] [(.int (0 : Int32))])) (fun X t q => XS.iload X.here C.hx rfl (hb C.hby d4_43) rfl q) ?_
  refine Wk.st (g' := (mkF m 46 #[.val (.ref o0), .val (.long (1000 : Int64)), .second, .val (.ref b2), .val (.long (0 : Int64)), .second, .val (.int (1 : Int32)), .val (.int (0 : Int32)), .unset, .unset, .unset] [(.ref o0), (.int (0 : Int32))])) (fun X t q => XS.aloadN X.here C.hx rfl (hb C.hby d4_45) rfl rfl q) ?_
  refine Wk.getF C (hw _ (List.mem_of_getElem? (i := 27) rfl)) Via.refl F135 d4_46 ?_
  show Wk _ p l e _ s m _ below meth c n0 _ h119 1 2 (mkF m 49 #[.val (.ref o0), .val (.long (1000 : Int64)), .second, .val (.ref b2), .val (.long (0 : Int64)), .second, .val (.int (1 : Int32)), .val (.int (0 : Int32)), .unset, .unset, .unset] [(.ref o5), (.int (0 : Int32))])
  refine Wk.st (g' := (mkF m 51 #[.val (.ref o0), .val (.long (1000 : Int64)), .second, .val (.ref b2), .val (.long (0 : Int64)), .second, .val (.int (1 : Int32)), .val (.int (0 : Int32)), .unset, .unset, .unset] [(.int (1 : Int32)), (.ref o5), (.int (0 : Int32))])) (fun X t q => XS.iload X.here C.hx rfl (hb C.hby d4_49) rfl q) ?_
  refine Wk.fLdI C F134 (i := 1) (by decide) (by decide) (by decide) (v := (.int (0 : Int32))) rfl d4_51 ?_
  show Wk _ p l e _ s m _ below meth c n0 _ h119 1 2 (mkF m 52 #[.val (.ref o0), .val (.long (1000 : Int64)), .second, .val (.ref b2), .val (.long (0 : Int64)), .second, .val (.int (1 : Int32)), .val (.int (0 : Int32)), .unset, .unset, .unset] [(.int (0 : Int32)), (.int (0 : Int32))])
  refine Wk.st (g' := (mkF m 78 #[.val (.ref o0), .val (.long (1000 : Int64)), .second, .val (.ref b2), .val (.long (0 : Int64)), .second, .val (.int (1 : Int32)), .val (.int (0 : Int32)), .unset, .unset, .unset] [])) (fun X t q => XS.icmpYes X.here C.hx rfl (pc0 := 52) (pc' := 78) rfl (hb C.hby d4_52) rfl (XT.ii_ge_t (by decide)) (by decide) (by decide) q) ?_
  refine Wk.st (g' := (mkF m 79 #[.val (.ref o0), .val (.long (1000 : Int64)), .second, .val (.ref b2), .val (.long (0 : Int64)), .second, .val (.int (1 : Int32)), .val (.int (0 : Int32)), .unset, .unset, .unset] [(.int (0 : Int32))])) (fun X t q => XS.iconst X.here C.hx rfl (hb C.hby d4_78) q) ?_
  refine Wk.st (g' := (mkF m 81 #[.val (.ref o0), .val (.long (1000 : Int64)), .second, .val (.ref b2), .val (.long (0 : Int64)), .second, .val (.int (1 : Int32)), .val (.int (0 : Int32)), .unset, .unset, .unset] [])) (fun X t q => XS.istore X.here C.hx rfl (hb C.hby d4_79) rfl (l' := #[.val (.ref o0), .val (.long (1000 : Int64)), .second, .val (.ref b2), .val (.long (0 : Int64)), .second, .val (.int (1 : Int32)), .val (.int (0 : Int32)), .unset, .unset, .unset]) rfl q) ?_
  refine Wk.st (g' := (mkF m 83 #[.val (.ref o0), .val (.long (1000 : Int64)), .second, .val (.ref b2), .val (.long (0 : Int64)), .second, .val (.int (1 : Int32)), .val (.int (0 : Int32)), .unset, .unset, .unset] [(.int (0 : Int32))])) (fun X t q => XS.iload X.here C.hx rfl (hb C.hby d4_81) rfl q) ?_
  refine Wk.st (g' := (mkF m 84 #[.val (.ref o0), .val (.long (1000 : Int64)), .second, .val (.ref b2), .val (.long (0 : Int64)), .second, .val (.int (1 : Int32)), .val (.int (0 : Int32)), .unset, .unset, .unset] [(.ref o0), (.int (0 : Int32))])) (fun X t q => XS.aloadN X.here C.hx rfl (hb C.hby d4_83) rfl rfl q) ?_
  refine Wk.getF C (hw _ (List.mem_of_getElem? (i := 31) rfl)) Via.refl F140 d4_84 ?_
  show Wk _ p l e _ s m _ below meth c n0 _ h119 1 2 (mkF m 87 #[.val (.ref o0), .val (.long (1000 : Int64)), .second, .val (.ref b2), .val (.long (0 : Int64)), .second, .val (.int (1 : Int32)), .val (.int (0 : Int32)), .unset, .unset, .unset] [(.ref o7), (.int (0 : Int32))])
  refine Wk.st (g' := (mkF m 89 #[.val (.ref o0), .val (.long (1000 : Int64)), .second, .val (.ref b2), .val (.long (0 : Int64)), .second, .val (.int (1 : Int32)), .val (.int (0 : Int32)), .unset, .unset, .unset] [(.int (1 : Int32)), (.ref o7), (.int (0 : Int32))])) (fun X t q => XS.iload X.here C.hx rfl (hb C.hby d4_87) rfl q) ?_
  refine Wk.fLdI C F139 (i := 1) (by decide) (by decide) (by decide) (v := (.int (0 : Int32))) rfl d4_89 ?_
  show Wk _ p l e _ s m _ below meth c n0 _ h119 1 2 (mkF m 90 #[.val (.ref o0), .val (.long (1000 : Int64)), .second, .val (.ref b2), .val (.long (0 : Int64)), .second, .val (.int (1 : Int32)), .val (.int (0 : Int32)), .unset, .unset, .unset] [(.int (0 : Int32)), (.int (0 : Int32))])
  refine Wk.st (g' := (mkF m 151 #[.val (.ref o0), .val (.long (1000 : Int64)), .second, .val (.ref b2), .val (.long (0 : Int64)), .second, .val (.int (1 : Int32)), .val (.int (0 : Int32)), .unset, .unset, .unset] [])) (fun X t q => XS.icmpYes X.here C.hx rfl (pc0 := 90) (pc' := 151) rfl (hb C.hby d4_90) rfl (XT.ii_ge_t (by decide)) (by decide) (by decide) q) ?_
  refine Wk.st (g' := (mkF m 154 #[.val (.ref o0), .val (.long (1000 : Int64)), .second, .val (.ref b2), .val (.long (0 : Int64)), .second, .val (.int (2 : Int32)), .val (.int (0 : Int32)), .unset, .unset, .unset] [])) (fun X t q => XS.iinc X.here C.hx rfl (hb C.hby d4_151) rfl (l' := #[.val (.ref o0), .val (.long (1000 : Int64)), .second, .val (.ref b2), .val (.long (0 : Int64)), .second, .val (.int (2 : Int32)), .val (.int (0 : Int32)), .unset, .unset, .unset]) rfl q) ?_
  refine Wk.st (g' := (mkF m 13 #[.val (.ref o0), .val (.long (1000 : Int64)), .second, .val (.ref b2), .val (.long (0 : Int64)), .second, .val (.int (2 : Int32)), .val (.int (0 : Int32)), .unset, .unset, .unset] [])) (fun X t q => XS.goto X.here C.hx rfl (pc0 := 154) (pc' := 13) rfl (hb C.hby d4_154) (by decide) (by decide) q) ?_
  refine Wk.st (g' := (mkF m 15 #[.val (.ref o0), .val (.long (1000 : Int64)), .second, .val (.ref b2), .val (.long (0 : Int64)), .second, .val (.int (2 : Int32)), .val (.int (0 : Int32)), .unset, .unset, .unset] [(.int (2 : Int32))])) (fun X t q => XS.iload X.here C.hx rfl (hb C.hby d4_13) rfl q) ?_
  refine Wk.st (g' := (mkF m 16 #[.val (.ref o0), .val (.long (1000 : Int64)), .second, .val (.ref b2), .val (.long (0 : Int64)), .second, .val (.int (2 : Int32)), .val (.int (0 : Int32)), .unset, .unset, .unset] [(.ref o0), (.int (2 : Int32))])) (fun X t q => XS.aloadN X.here C.hx rfl (hb C.hby d4_15) rfl rfl q) ?_
  refine Wk.getF C (hw _ (List.mem_of_getElem? (i := 11) rfl)) Via.refl F124 d4_16 ?_
  show Wk _ p l e _ s m _ below meth c n0 _ h119 1 2 (mkF m 19 #[.val (.ref o0), .val (.long (1000 : Int64)), .second, .val (.ref b2), .val (.long (0 : Int64)), .second, .val (.int (2 : Int32)), .val (.int (0 : Int32)), .unset, .unset, .unset] [(.int (2 : Int32)), (.int (2 : Int32))])
  refine Wk.st (g' := (mkF m 157 #[.val (.ref o0), .val (.long (1000 : Int64)), .second, .val (.ref b2), .val (.long (0 : Int64)), .second, .val (.int (2 : Int32)), .val (.int (0 : Int32)), .unset, .unset, .unset] [])) (fun X t q => XS.icmpYes X.here C.hx rfl (pc0 := 19) (pc' := 157) rfl (hb C.hby d4_19) rfl (XT.ii_ge_t (by decide)) (by decide) (by decide) q) ?_
  refine Wk.st (g' := (mkF m 159 #[.val (.ref o0), .val (.long (1000 : Int64)), .second, .val (.ref b2), .val (.long (0 : Int64)), .second, .val (.int (2 : Int32)), .val (.int (0 : Int32)), .unset, .unset, .unset] [(.long (0 : Int64))])) (fun X t q => XS.lload X.here C.hx rfl (hb C.hby d4_157) rfl q) ?_
  refine Wk.st (g' := (mkF m 160 #[.val (.ref o0), .val (.long (1000 : Int64)), .second, .val (.ref b2), .val (.long (0 : Int64)), .second, .val (.int (2 : Int32)), .val (.int (0 : Int32)), .unset, .unset, .unset] [(.long (1000 : Int64)), (.long (0 : Int64))])) (fun X t q => XS.lloadN X.here C.hx rfl (hb C.hby d4_159) rfl q) ?_
  refine Wk.st (g' := (mkF m 161 #[.val (.ref o0), .val (.long (1000 : Int64)), .second, .val (.ref b2), .val (.long (0 : Int64)), .second, .val (.int (2 : Int32)), .val (.int (0 : Int32)), .unset, .unset, .unset] [(.int (XT.cmpL (0 : Int64) (1000 : Int64)))])) (fun X t q => XT.lcmp X.here C.hx rfl (hb C.hby d4_160) rfl q) ?_
  refine Wk.st (g' := (mkF m 166 #[.val (.ref o0), .val (.long (1000 : Int64)), .second, .val (.ref b2), .val (.long (0 : Int64)), .second, .val (.int (2 : Int32)), .val (.int (0 : Int32)), .unset, .unset, .unset] [])) (fun X t q => XS.ifYes X.here C.hx rfl (pc0 := 161) (pc' := 166) rfl (hb C.hby d4_161) rfl (XT.ll_le_t (by decide)) (by decide) (by decide) q) ?_
  refine Wk.st (g' := (mkF m 167 #[.val (.ref o0), .val (.long (1000 : Int64)), .second, .val (.ref b2), .val (.long (0 : Int64)), .second, .val (.int (2 : Int32)), .val (.int (0 : Int32)), .unset, .unset, .unset] [(.ref o0)])) (fun X t q => XS.aloadN X.here C.hx rfl (hb C.hby d4_166) rfl rfl q) ?_
  refine Wk.getF C (hw _ (List.mem_of_getElem? (i := 11) rfl)) Via.refl F124 d4_167 ?_
  show Wk _ p l e _ s m _ below meth c n0 _ h119 1 2 (mkF m 170 #[.val (.ref o0), .val (.long (1000 : Int64)), .second, .val (.ref b2), .val (.long (0 : Int64)), .second, .val (.int (2 : Int32)), .val (.int (0 : Int32)), .unset, .unset, .unset] [(.int (2 : Int32))])
  refine Wk.fNewP C (hw _ (List.mem_of_getElem? (i := 13) rfl)) (ty := .double) (dv := (.double (0 : UInt64))) (N := 2) (ad := "[D") rfl rfl (by decide) (by decide) (by decide) (cap := 2) (by decide) (by decide) d4_170 (by decide) (by decide) ?_
  intro h168 b169 g170 E171 A172 F173
  have ne174 : o0 ≠ b169 := Nat.ne_of_lt (Nat.lt_of_lt_of_le F122.lt (Nat.le_of_eq g170.symm))
  have ne175 : o1 ≠ b169 := Nat.ne_of_lt (Nat.lt_of_lt_of_le F125.lt (Nat.le_of_eq g170.symm))
  have ne176 : o2 ≠ b169 := Nat.ne_of_lt (Nat.lt_of_lt_of_le F127.lt (Nat.le_of_eq g170.symm))
  have ne177 : o3 ≠ b169 := Nat.ne_of_lt (Nat.lt_of_lt_of_le F129.lt (Nat.le_of_eq g170.symm))
  have ne178 : o4 ≠ b169 := Nat.ne_of_lt (Nat.lt_of_lt_of_le F131.lt (Nat.le_of_eq g170.symm))
  have ne179 : o5 ≠ b169 := Nat.ne_of_lt (Nat.lt_of_lt_of_le F133.lt (Nat.le_of_eq g170.symm))
  have ne180 : o6 ≠ b169 := Nat.ne_of_lt (Nat.lt_of_lt_of_le F136.lt (Nat.le_of_eq g170.symm))
  have ne181 : o7 ≠ b169 := Nat.ne_of_lt (Nat.lt_of_lt_of_le F138.lt (Nat.le_of_eq g170.symm))
  have ne182 : o8 ≠ b169 := Nat.ne_of_lt (Nat.lt_of_lt_of_le F141.lt (Nat.le_of_eq g170.symm))
  have ne183 : o9 ≠ b169 := Nat.ne_of_lt (Nat.lt_of_lt_of_le F144.lt (Nat.le_of_eq g170.symm))
  have ne184 : o10 ≠ b169 := Nat.ne_of_lt (Nat.lt_of_lt_of_le F147.lt (Nat.le_of_eq g170.symm))
  have ne185 : o12 ≠ b169 := Nat.ne_of_lt (Nat.lt_of_lt_of_le F149.lt (Nat.le_of_eq g170.symm))
  have ne186 : o14 ≠ b169 := Nat.ne_of_lt (Nat.lt_of_lt_of_le F151.lt (Nat.le_of_eq g170.symm))
  have ne187 : o11 ≠ b169 := Nat.ne_of_lt (Nat.lt_of_lt_of_le F153.lt (Nat.le_of_eq g170.symm))
  have ne188 : o13 ≠ b169 := Nat.ne_of_lt (Nat.lt_of_lt_of_le F156.lt (Nat.le_of_eq g170.symm))
  have ne189 : o15 ≠ b169 := Nat.ne_of_lt (Nat.lt_of_lt_of_le F159.lt (Nat.le_of_eq g170.symm))
  have ne190 : b2 ≠ b169 := Nat.ne_of_lt (Nat.lt_of_lt_of_le F164.lt (Nat.le_of_eq g170.symm))
  have ge191 : n0 ≤ b169 := Nat.le_trans sz165 (Nat.le_of_eq g170.symm)
  have gz192 : h0.size ≤ b169 := Nat.le_trans sy166 (Nat.le_of_eq g170.symm)
  have F193 : Exa Z h168 o0 "com/example/torino/torino/AbsorbingChain" := F122.ext E171
  have F194 : Fld Z h168 o0 "com/example/torino/torino/AbsorbingChain" "markedRow" "I" (.int (-1 : Int32)) := F123.ext E171
  have F195 : Fld Z h168 o0 "com/example/torino/torino/AbsorbingChain" "size" "I" (.int (2 : Int32)) := F124.ext E171
  have F196 : Exa Z h168 o1 "[D" := F125.ext E171
  have F197 : Fld Z h168 o0 "com/example/torino/torino/AbsorbingChain" "exitProbabilities" "[D" (.ref o1) := F126.ext E171
  have F198 : Exa Z h168 o2 "[D" := F127.ext E171
  have F199 : Fld Z h168 o0 "com/example/torino/torino/AbsorbingChain" "exitValues" "[D" (.ref o2) := F128.ext E171
  have F200 : Exa Z h168 o3 "[[I" := F129.ext E171
  have F201 : Fld Z h168 o0 "com/example/torino/torino/AbsorbingChain" "nexts" "[[I" (.ref o3) := F130.ext E171
  have F202 : Exa Z h168 o4 "[[D" := F131.ext E171
  have F203 : Fld Z h168 o0 "com/example/torino/torino/AbsorbingChain" "probabilities" "[[D" (.ref o4) := F132.ext E171
  have F204 : Exa Z h168 o5 "[I" := F133.ext E171
  have F205 : Fa Z h168 o5 .int 2 (fun _ => (.int (0 : Int32))) := F134.ext E171
  have F206 : Fld Z h168 o0 "com/example/torino/torino/AbsorbingChain" "lengths" "[I" (.ref o5) := F135.ext E171
  have F207 : Exa Z h168 o6 "[[I" := F136.ext E171
  have F208 : Fld Z h168 o0 "com/example/torino/torino/AbsorbingChain" "predecessors" "[[I" (.ref o6) := F137.ext E171
  have F209 : Exa Z h168 o7 "[I" := F138.ext E171
  have F210 : Fa Z h168 o7 .int 2 (fun _ => (.int (0 : Int32))) := F139.ext E171
  have F211 : Fld Z h168 o0 "com/example/torino/torino/AbsorbingChain" "predecessorCounts" "[I" (.ref o7) := F140.ext E171
  have F212 : Exa Z h168 o8 "[I" := F141.ext E171
  have F213 : Fa Z h168 o8 .int 2 (fun _ => (.int (0 : Int32))) := F142.ext E171
  have F214 : Fld Z h168 o0 "com/example/torino/torino/AbsorbingChain" "entryMarks" "[I" (.ref o8) := F143.ext E171
  have F215 : Exa Z h168 o9 "[I" := F144.ext E171
  have F216 : Fa Z h168 o9 .int 2 (fun _ => (.int (0 : Int32))) := F145.ext E171
  have F217 : Fld Z h168 o0 "com/example/torino/torino/AbsorbingChain" "entries" "[I" (.ref o9) := F146.ext E171
  have F218 : Exa Z h168 o10 "[I" := F147.ext E171
  have F219 : Fa Z h168 o10 .int 2 (fun _ => (.int (0 : Int32))) := F148.ext E171
  have F220 : Exa Z h168 o12 "[D" := F149.ext E171
  have F221 : Fa Z h168 o12 .double 2 (fun _ => (.double (0 : UInt64))) := F150.ext E171
  have F222 : Exa Z h168 o14 "[I" := F151.ext E171
  have F223 : Fa Z h168 o14 .int 2 (fun _ => (.int (0 : Int32))) := F152.ext E171
  have F224 : Exa Z h168 o11 "[I" := F153.ext E171
  have F225 : Fa Z h168 o11 .int 2 (fun _ => (.int (0 : Int32))) := F154.ext E171
  have F226 : FaA Z h168 o3 .int "[I" 2 (up (up (fun _ => .null) 0 (.ref o10)) 1 (.ref o11)) := F155.ext E171
  have F227 : Exa Z h168 o13 "[D" := F156.ext E171
  have F228 : Fa Z h168 o13 .double 2 (fun _ => (.double (0 : UInt64))) := F157.ext E171
  have F229 : FaA Z h168 o4 .double "[D" 2 (up (up (fun _ => .null) 0 (.ref o12)) 1 (.ref o13)) := F158.ext E171
  have F230 : Exa Z h168 o15 "[I" := F159.ext E171
  have F231 : Fa Z h168 o15 .int 2 (fun _ => (.int (0 : Int32))) := F160.ext E171
  have F232 : FaA Z h168 o6 .int "[I" 2 (up (up (fun _ => .null) 0 (.ref o14)) 1 (.ref o15)) := F161.ext E171
  have F233 : Fa Z h168 o1 .double 2 (up (up (fun _ => (.double (0 : UInt64))) 0 (.double z1)) 1 (.double z0)) := F162.ext E171
  have F234 : Fa Z h168 o2 .double 2 (up (up (fun _ => (.double (0 : UInt64))) 0 (.double z3)) 1 (.double z2)) := F163.ext E171
  have F235 : Exa Z h168 b2 "[D" := F164.ext E171
  have F236 : Fa Z h168 b2 .double 2 (up (up (fun _ => (.double (0 : UInt64))) 0 (.double z1)) 1 (.double z0)) := F121.ext E171
  have sz237 : n0 ≤ h168.size := Nat.le_trans sz165 E171.1
  have sy238 : h0.size ≤ h168.size := Nat.le_trans sy166 E171.1
  have K239 := K167.ext E171
  show Wk _ p l e _ s m _ below meth c n0 _ h168 2 4 (mkF m 172 #[.val (.ref o0), .val (.long (1000 : Int64)), .second, .val (.ref b2), .val (.long (0 : Int64)), .second, .val (.int (2 : Int32)), .val (.int (0 : Int32)), .unset, .unset, .unset] [(.ref b169)])
  refine Wk.st (g' := (mkF m 174 #[.val (.ref o0), .val (.long (1000 : Int64)), .second, .val (.ref b2), .val (.long (0 : Int64)), .second, .val (.ref b169), .val (.int (0 : Int32)), .unset, .unset, .unset] [])) (fun X t q => XS.astore X.here C.hx rfl (hb C.hby d4_172) rfl rfl (l' := #[.val (.ref o0), .val (.long (1000 : Int64)), .second, .val (.ref b2), .val (.long (0 : Int64)), .second, .val (.ref b169), .val (.int (0 : Int32)), .unset, .unset, .unset]) rfl q) ?_
  refine Wk.st (g' := (mkF m 175 #[.val (.ref o0), .val (.long (1000 : Int64)), .second, .val (.ref b2), .val (.long (0 : Int64)), .second, .val (.ref b169), .val (.int (0 : Int32)), .unset, .unset, .unset] [(.ref o0)])) (fun X t q => XS.aloadN X.here C.hx rfl (hb C.hby d4_174) rfl rfl q) ?_
  refine Wk.getF C (hw _ (List.mem_of_getElem? (i := 11) rfl)) Via.refl F195 d4_175 ?_
  show Wk _ p l e _ s m _ below meth c n0 _ h168 2 4 (mkF m 178 #[.val (.ref o0), .val (.long (1000 : Int64)), .second, .val (.ref b2), .val (.long (0 : Int64)), .second, .val (.ref b169), .val (.int (0 : Int32)), .unset, .unset, .unset] [(.int (2 : Int32))])
  refine Wk.st (g' := (mkF m 179 #[.val (.ref o0), .val (.long (1000 : Int64)), .second, .val (.ref b2), .val (.long (0 : Int64)), .second, .val (.ref b169), .val (.int (0 : Int32)), .unset, .unset, .unset] [(.int (1 : Int32)), (.int (2 : Int32))])) (fun X t q => XS.iconst X.here C.hx rfl (hb C.hby d4_178) q) ?_
  refine Wk.st (g' := (mkF m 180 #[.val (.ref o0), .val (.long (1000 : Int64)), .second, .val (.ref b2), .val (.long (0 : Int64)), .second, .val (.ref b169), .val (.int (0 : Int32)), .unset, .unset, .unset] [(.int (1 : Int32))])) (fun X t q => XS.isub X.here C.hx rfl (hb C.hby d4_179) rfl q) ?_
  refine Wk.st (g' := (mkF m 182 #[.val (.ref o0), .val (.long (1000 : Int64)), .second, .val (.ref b2), .val (.long (0 : Int64)), .second, .val (.ref b169), .val (.int (1 : Int32)), .unset, .unset, .unset] [])) (fun X t q => XS.istore X.here C.hx rfl (hb C.hby d4_180) rfl (l' := #[.val (.ref o0), .val (.long (1000 : Int64)), .second, .val (.ref b2), .val (.long (0 : Int64)), .second, .val (.ref b169), .val (.int (1 : Int32)), .unset, .unset, .unset]) rfl q) ?_
  refine Wk.st (g' := (mkF m 184 #[.val (.ref o0), .val (.long (1000 : Int64)), .second, .val (.ref b2), .val (.long (0 : Int64)), .second, .val (.ref b169), .val (.int (1 : Int32)), .unset, .unset, .unset] [(.int (1 : Int32))])) (fun X t q => XS.iload X.here C.hx rfl (hb C.hby d4_182) rfl q) ?_
  refine Wk.st (g' := (mkF m 187 #[.val (.ref o0), .val (.long (1000 : Int64)), .second, .val (.ref b2), .val (.long (0 : Int64)), .second, .val (.ref b169), .val (.int (1 : Int32)), .unset, .unset, .unset] [])) (fun X t q => XS.ifNo X.here C.hx rfl (hb C.hby d4_184) rfl (XT.i0_lt_f (by decide)) q) ?_
  refine Wk.st (g' := (mkF m 188 #[.val (.ref o0), .val (.long (1000 : Int64)), .second, .val (.ref b2), .val (.long (0 : Int64)), .second, .val (.ref b169), .val (.int (1 : Int32)), .unset, .unset, .unset] [(.ref o0)])) (fun X t q => XS.aloadN X.here C.hx rfl (hb C.hby d4_187) rfl rfl q) ?_
  refine Wk.getF C (hw _ (List.mem_of_getElem? (i := 16) rfl)) Via.refl F199 d4_188 ?_
  show Wk _ p l e _ s m _ below meth c n0 _ h168 2 4 (mkF m 191 #[.val (.ref o0), .val (.long (1000 : Int64)), .second, .val (.ref b2), .val (.long (0 : Int64)), .second, .val (.ref b169), .val (.int (1 : Int32)), .unset, .unset, .unset] [(.ref o2)])
  refine Wk.st (g' := (mkF m 193 #[.val (.ref o0), .val (.long (1000 : Int64)), .second, .val (.ref b2), .val (.long (0 : Int64)), .second, .val (.ref b169), .val (.int (1 : Int32)), .unset, .unset, .unset] [(.int (1 : Int32)), (.ref o2)])) (fun X t q => XS.iload X.here C.hx rfl (hb C.hby d4_191) rfl q) ?_
  refine Wk.fLdD C F234 (i := 1) (by decide) (by decide) (by decide) (v := (.double z2)) (by simp [up]) d4_193 ?_
  show Wk _ p l e _ s m _ below meth c n0 _ h168 2 4 (mkF m 194 #[.val (.ref o0), .val (.long (1000 : Int64)), .second, .val (.ref b2), .val (.long (0 : Int64)), .second, .val (.ref b169), .val (.int (1 : Int32)), .unset, .unset, .unset] [(.double z2)])
  refine Wk.st (g' := (mkF m 196 #[.val (.ref o0), .val (.long (1000 : Int64)), .second, .val (.ref b2), .val (.long (0 : Int64)), .second, .val (.ref b169), .val (.int (1 : Int32)), .val (.double z2), .second, .unset] [])) (fun X t q => XS.dstore X.here C.hx rfl (hb C.hby d4_194) rfl (l' := #[.val (.ref o0), .val (.long (1000 : Int64)), .second, .val (.ref b2), .val (.long (0 : Int64)), .second, .val (.ref b169), .val (.int (1 : Int32)), .val (.double z2), .second, .unset]) rfl q) ?_
  refine Wk.st (g' := (mkF m 197 #[.val (.ref o0), .val (.long (1000 : Int64)), .second, .val (.ref b2), .val (.long (0 : Int64)), .second, .val (.ref b169), .val (.int (1 : Int32)), .val (.double z2), .second, .unset] [(.int (0 : Int32))])) (fun X t q => XS.iconst X.here C.hx rfl (hb C.hby d4_196) q) ?_
  refine Wk.st (g' := (mkF m 199 #[.val (.ref o0), .val (.long (1000 : Int64)), .second, .val (.ref b2), .val (.long (0 : Int64)), .second, .val (.ref b169), .val (.int (1 : Int32)), .val (.double z2), .second, .val (.int (0 : Int32))] [])) (fun X t q => XS.istore X.here C.hx rfl (hb C.hby d4_197) rfl (l' := #[.val (.ref o0), .val (.long (1000 : Int64)), .second, .val (.ref b2), .val (.long (0 : Int64)), .second, .val (.ref b169), .val (.int (1 : Int32)), .val (.double z2), .second, .val (.int (0 : Int32))]) rfl q) ?_
  refine Wk.st (g' := (mkF m 201 #[.val (.ref o0), .val (.long (1000 : Int64)), .second, .val (.ref b2), .val (.long (0 : Int64)), .second, .val (.ref b169), .val (.int (1 : Int32)), .val (.double z2), .second, .val (.int (0 : Int32))] [(.int (0 : Int32))])) (fun X t q => XS.iload X.here C.hx rfl (hb C.hby d4_199) rfl q) ?_
  refine Wk.st (g' := (mkF m 202 #[.val (.ref o0), .val (.long (1000 : Int64)), .second, .val (.ref b2), .val (.long (0 : Int64)), .second, .val (.ref b169), .val (.int (1 : Int32)), .val (.double z2), .second, .val (.int (0 : Int32))] [(.ref o0), (.int (0 : Int32))])) (fun X t q => XS.aloadN X.here C.hx rfl (hb C.hby d4_201) rfl rfl q) ?_
  refine Wk.getF C (hw _ (List.mem_of_getElem? (i := 27) rfl)) Via.refl F206 d4_202 ?_
  show Wk _ p l e _ s m _ below meth c n0 _ h168 2 4 (mkF m 205 #[.val (.ref o0), .val (.long (1000 : Int64)), .second, .val (.ref b2), .val (.long (0 : Int64)), .second, .val (.ref b169), .val (.int (1 : Int32)), .val (.double z2), .second, .val (.int (0 : Int32))] [(.ref o5), (.int (0 : Int32))])
  refine Wk.st (g' := (mkF m 207 #[.val (.ref o0), .val (.long (1000 : Int64)), .second, .val (.ref b2), .val (.long (0 : Int64)), .second, .val (.ref b169), .val (.int (1 : Int32)), .val (.double z2), .second, .val (.int (0 : Int32))] [(.int (1 : Int32)), (.ref o5), (.int (0 : Int32))])) (fun X t q => XS.iload X.here C.hx rfl (hb C.hby d4_205) rfl q) ?_
  refine Wk.fLdI C F205 (i := 1) (by decide) (by decide) (by decide) (v := (.int (0 : Int32))) rfl d4_207 ?_
  show Wk _ p l e _ s m _ below meth c n0 _ h168 2 4 (mkF m 208 #[.val (.ref o0), .val (.long (1000 : Int64)), .second, .val (.ref b2), .val (.long (0 : Int64)), .second, .val (.ref b169), .val (.int (1 : Int32)), .val (.double z2), .second, .val (.int (0 : Int32))] [(.int (0 : Int32)), (.int (0 : Int32))])
  refine Wk.st (g' := (mkF m 246 #[.val (.ref o0), .val (.long (1000 : Int64)), .second, .val (.ref b2), .val (.long (0 : Int64)), .second, .val (.ref b169), .val (.int (1 : Int32)), .val (.double z2), .second, .val (.int (0 : Int32))] [])) (fun X t q => XS.icmpYes X.here C.hx rfl (pc0 := 208) (pc' := 246) rfl (hb C.hby d4_208) rfl (XT.ii_ge_t (by decide)) (by decide) (by decide) q) ?_
  refine Wk.st (g' := (mkF m 248 #[.val (.ref o0), .val (.long (1000 : Int64)), .second, .val (.ref b2), .val (.long (0 : Int64)), .second, .val (.ref b169), .val (.int (1 : Int32)), .val (.double z2), .second, .val (.int (0 : Int32))] [(.ref b169)])) (fun X t q => XS.aload X.here C.hx rfl (hb C.hby d4_246) rfl rfl q) ?_
  refine Wk.st (g' := (mkF m 250 #[.val (.ref o0), .val (.long (1000 : Int64)), .second, .val (.ref b2), .val (.long (0 : Int64)), .second, .val (.ref b169), .val (.int (1 : Int32)), .val (.double z2), .second, .val (.int (0 : Int32))] [(.int (1 : Int32)), (.ref b169)])) (fun X t q => XS.iload X.here C.hx rfl (hb C.hby d4_248) rfl q) ?_
  refine Wk.st (g' := (mkF m 252 #[.val (.ref o0), .val (.long (1000 : Int64)), .second, .val (.ref b2), .val (.long (0 : Int64)), .second, .val (.ref b169), .val (.int (1 : Int32)), .val (.double z2), .second, .val (.int (0 : Int32))] [(.double z2), (.int (1 : Int32)), (.ref b169)])) (fun X t q => XS.dload X.here C.hx rfl (hb C.hby d4_250) rfl q) ?_
  refine Wk.st (g' := (mkF m 253 #[.val (.ref o0), .val (.long (1000 : Int64)), .second, .val (.ref b2), .val (.long (0 : Int64)), .second, .val (.ref b169), .val (.int (1 : Int32)), .val (.double z2), .second, .val (.int (0 : Int32))] [(.ref b2), (.double z2), (.int (1 : Int32)), (.ref b169)])) (fun X t q => XS.aloadN X.here C.hx rfl (hb C.hby d4_252) rfl rfl q) ?_
  refine Wk.st (g' := (mkF m 255 #[.val (.ref o0), .val (.long (1000 : Int64)), .second, .val (.ref b2), .val (.long (0 : Int64)), .second, .val (.ref b169), .val (.int (1 : Int32)), .val (.double z2), .second, .val (.int (0 : Int32))] [(.int (1 : Int32)), (.ref b2), (.double z2), (.int (1 : Int32)), (.ref b169)])) (fun X t q => XS.iload X.here C.hx rfl (hb C.hby d4_253) rfl q) ?_
  refine Wk.fLdD C F236 (i := 1) (by decide) (by decide) (by decide) (v := (.double z0)) (by simp [up]) d4_255 ?_
  show Wk _ p l e _ s m _ below meth c n0 _ h168 2 4 (mkF m 256 #[.val (.ref o0), .val (.long (1000 : Int64)), .second, .val (.ref b2), .val (.long (0 : Int64)), .second, .val (.ref b169), .val (.int (1 : Int32)), .val (.double z2), .second, .val (.int (0 : Int32))] [(.double z0), (.double z2), (.int (1 : Int32)), (.ref b169)])
  refine Wk.st (g' := (mkF m 257 #[.val (.ref o0), .val (.long (1000 : Int64)), .second, .val (.ref b2), .val (.long (0 : Int64)), .second, .val (.ref b169), .val (.int (1 : Int32)), .val (.double z2), .second, .val (.int (0 : Int32))] [(.double (FP.ddiv z2 z0)), (.int (1 : Int32)), (.ref b169)])) (fun X t q => XS.ddivS X.here C.hx rfl (hb C.hby d4_256) rfl nn_0 rfl q) ?_
  refine Wk.fStD C F173 (i := 1) (by decide) (by decide) (by decide) ge191 d4_257 ?_
  intro h240 W241 F242
  have F243 : Exa Z h240 o0 "com/example/torino/torino/AbsorbingChain" := F193.wr W241
  have F244 : Fld Z h240 o0 "com/example/torino/torino/AbsorbingChain" "markedRow" "I" (.int (-1 : Int32)) := F194.other W241 (Or.inl ne174)
  have F245 : Fld Z h240 o0 "com/example/torino/torino/AbsorbingChain" "size" "I" (.int (2 : Int32)) := F195.other W241 (Or.inl ne174)
  have F246 : Exa Z h240 o1 "[D" := F196.wr W241
  have F247 : Fld Z h240 o0 "com/example/torino/torino/AbsorbingChain" "exitProbabilities" "[D" (.ref o1) := F197.other W241 (Or.inl ne174)
  have F248 : Exa Z h240 o2 "[D" := F198.wr W241
  have F249 : Fld Z h240 o0 "com/example/torino/torino/AbsorbingChain" "exitValues" "[D" (.ref o2) := F199.other W241 (Or.inl ne174)
  have F250 : Exa Z h240 o3 "[[I" := F200.wr W241
  have F251 : Fld Z h240 o0 "com/example/torino/torino/AbsorbingChain" "nexts" "[[I" (.ref o3) := F201.other W241 (Or.inl ne174)
  have F252 : Exa Z h240 o4 "[[D" := F202.wr W241
  have F253 : Fld Z h240 o0 "com/example/torino/torino/AbsorbingChain" "probabilities" "[[D" (.ref o4) := F203.other W241 (Or.inl ne174)
  have F254 : Exa Z h240 o5 "[I" := F204.wr W241
  have F255 : Fa Z h240 o5 .int 2 (fun _ => (.int (0 : Int32))) := F205.other W241 ne179
  have F256 : Fld Z h240 o0 "com/example/torino/torino/AbsorbingChain" "lengths" "[I" (.ref o5) := F206.other W241 (Or.inl ne174)
  have F257 : Exa Z h240 o6 "[[I" := F207.wr W241
  have F258 : Fld Z h240 o0 "com/example/torino/torino/AbsorbingChain" "predecessors" "[[I" (.ref o6) := F208.other W241 (Or.inl ne174)
  have F259 : Exa Z h240 o7 "[I" := F209.wr W241
  have F260 : Fa Z h240 o7 .int 2 (fun _ => (.int (0 : Int32))) := F210.other W241 ne181
  have F261 : Fld Z h240 o0 "com/example/torino/torino/AbsorbingChain" "predecessorCounts" "[I" (.ref o7) := F211.other W241 (Or.inl ne174)
  have F262 : Exa Z h240 o8 "[I" := F212.wr W241
  have F263 : Fa Z h240 o8 .int 2 (fun _ => (.int (0 : Int32))) := F213.other W241 ne182
  have F264 : Fld Z h240 o0 "com/example/torino/torino/AbsorbingChain" "entryMarks" "[I" (.ref o8) := F214.other W241 (Or.inl ne174)
  have F265 : Exa Z h240 o9 "[I" := F215.wr W241
  have F266 : Fa Z h240 o9 .int 2 (fun _ => (.int (0 : Int32))) := F216.other W241 ne183
  have F267 : Fld Z h240 o0 "com/example/torino/torino/AbsorbingChain" "entries" "[I" (.ref o9) := F217.other W241 (Or.inl ne174)
  have F268 : Exa Z h240 o10 "[I" := F218.wr W241
  have F269 : Fa Z h240 o10 .int 2 (fun _ => (.int (0 : Int32))) := F219.other W241 ne184
  have F270 : Exa Z h240 o12 "[D" := F220.wr W241
  have F271 : Fa Z h240 o12 .double 2 (fun _ => (.double (0 : UInt64))) := F221.other W241 ne185
  have F272 : Exa Z h240 o14 "[I" := F222.wr W241
  have F273 : Fa Z h240 o14 .int 2 (fun _ => (.int (0 : Int32))) := F223.other W241 ne186
  have F274 : Exa Z h240 o11 "[I" := F224.wr W241
  have F275 : Fa Z h240 o11 .int 2 (fun _ => (.int (0 : Int32))) := F225.other W241 ne187
  have F276 : FaA Z h240 o3 .int "[I" 2 (up (up (fun _ => .null) 0 (.ref o10)) 1 (.ref o11)) := F226.other W241 ne177
  have F277 : Exa Z h240 o13 "[D" := F227.wr W241
  have F278 : Fa Z h240 o13 .double 2 (fun _ => (.double (0 : UInt64))) := F228.other W241 ne188
  have F279 : FaA Z h240 o4 .double "[D" 2 (up (up (fun _ => .null) 0 (.ref o12)) 1 (.ref o13)) := F229.other W241 ne178
  have F280 : Exa Z h240 o15 "[I" := F230.wr W241
  have F281 : Fa Z h240 o15 .int 2 (fun _ => (.int (0 : Int32))) := F231.other W241 ne189
  have F282 : FaA Z h240 o6 .int "[I" 2 (up (up (fun _ => .null) 0 (.ref o14)) 1 (.ref o15)) := F232.other W241 ne180
  have F283 : Fa Z h240 o1 .double 2 (up (up (fun _ => (.double (0 : UInt64))) 0 (.double z1)) 1 (.double z0)) := F233.other W241 ne175
  have F284 : Fa Z h240 o2 .double 2 (up (up (fun _ => (.double (0 : UInt64))) 0 (.double z3)) 1 (.double z2)) := F234.other W241 ne176
  have F285 : Exa Z h240 b2 "[D" := F235.wr W241
  have F286 : Fa Z h240 b2 .double 2 (up (up (fun _ => (.double (0 : UInt64))) 0 (.double z1)) 1 (.double z0)) := F236.other W241 ne190
  have F287 : Exa Z h240 b169 "[D" := A172.wr W241
  have sz288 : n0 ≤ h240.size := Nat.le_trans sz237 (Nat.le_of_eq W241.size.symm)
  have sy289 : h0.size ≤ h240.size := Nat.le_trans sy238 (Nat.le_of_eq W241.size.symm)
  have K290 := K239.wr W241 (Or.inr gz192)
  show Wk _ p l e _ s m _ below meth c n0 _ h240 2 4 (mkF m 258 #[.val (.ref o0), .val (.long (1000 : Int64)), .second, .val (.ref b2), .val (.long (0 : Int64)), .second, .val (.ref b169), .val (.int (1 : Int32)), .val (.double z2), .second, .val (.int (0 : Int32))] [])
  refine Wk.st (g' := (mkF m 261 #[.val (.ref o0), .val (.long (1000 : Int64)), .second, .val (.ref b2), .val (.long (0 : Int64)), .second, .val (.ref b169), .val (.int (0 : Int32)), .val (.double z2), .second, .val (.int (0 : Int32))] [])) (fun X t q => XS.iinc X.here C.hx rfl (hb C.hby d4_258) rfl (l' := #[.val (.ref o0), .val (.long (1000 : Int64)), .second, .val (.ref b2), .val (.long (0 : Int64)), .second, .val (.ref b169), .val (.int (0 : Int32)), .val (.double z2), .second, .val (.int (0 : Int32))]) rfl q) ?_
  refine Wk.st (g' := (mkF m 182 #[.val (.ref o0), .val (.long (1000 : Int64)), .second, .val (.ref b2), .val (.long (0 : Int64)), .second, .val (.ref b169), .val (.int (0 : Int32)), .val (.double z2), .second, .val (.int (0 : Int32))] [])) (fun X t q => XS.goto X.here C.hx rfl (pc0 := 261) (pc' := 182) rfl (hb C.hby d4_261) (by decide) (by decide) q) ?_
  refine Wk.st (g' := (mkF m 184 #[.val (.ref o0), .val (.long (1000 : Int64)), .second, .val (.ref b2), .val (.long (0 : Int64)), .second, .val (.ref b169), .val (.int (0 : Int32)), .val (.double z2), .second, .val (.int (0 : Int32))] [(.int (0 : Int32))])) (fun X t q => XS.iload X.here C.hx rfl (hb C.hby d4_182) rfl q) ?_
  refine Wk.st (g' := (mkF m 187 #[.val (.ref o0), .val (.long (1000 : Int64)), .second, .val (.ref b2), .val (.long (0 : Int64)), .second, .val (.ref b169), .val (.int (0 : Int32)), .val (.double z2), .second, .val (.int (0 : Int32))] [])) (fun X t q => XS.ifNo X.here C.hx rfl (hb C.hby d4_184) rfl (XT.i0_lt_f (by decide)) q) ?_
  refine Wk.st (g' := (mkF m 188 #[.val (.ref o0), .val (.long (1000 : Int64)), .second, .val (.ref b2), .val (.long (0 : Int64)), .second, .val (.ref b169), .val (.int (0 : Int32)), .val (.double z2), .second, .val (.int (0 : Int32))] [(.ref o0)])) (fun X t q => XS.aloadN X.here C.hx rfl (hb C.hby d4_187) rfl rfl q) ?_
  refine Wk.getF C (hw _ (List.mem_of_getElem? (i := 16) rfl)) Via.refl F249 d4_188 ?_
  show Wk _ p l e _ s m _ below meth c n0 _ h240 2 4 (mkF m 191 #[.val (.ref o0), .val (.long (1000 : Int64)), .second, .val (.ref b2), .val (.long (0 : Int64)), .second, .val (.ref b169), .val (.int (0 : Int32)), .val (.double z2), .second, .val (.int (0 : Int32))] [(.ref o2)])
  refine Wk.st (g' := (mkF m 193 #[.val (.ref o0), .val (.long (1000 : Int64)), .second, .val (.ref b2), .val (.long (0 : Int64)), .second, .val (.ref b169), .val (.int (0 : Int32)), .val (.double z2), .second, .val (.int (0 : Int32))] [(.int (0 : Int32)), (.ref o2)])) (fun X t q => XS.iload X.here C.hx rfl (hb C.hby d4_191) rfl q) ?_
  refine Wk.fLdD C F284 (i := 0) (by decide) (by decide) (by decide) (v := (.double z3)) (by simp [up]) d4_193 ?_
  show Wk _ p l e _ s m _ below meth c n0 _ h240 2 4 (mkF m 194 #[.val (.ref o0), .val (.long (1000 : Int64)), .second, .val (.ref b2), .val (.long (0 : Int64)), .second, .val (.ref b169), .val (.int (0 : Int32)), .val (.double z2), .second, .val (.int (0 : Int32))] [(.double z3)])
  refine Wk.st (g' := (mkF m 196 #[.val (.ref o0), .val (.long (1000 : Int64)), .second, .val (.ref b2), .val (.long (0 : Int64)), .second, .val (.ref b169), .val (.int (0 : Int32)), .val (.double z3), .second, .val (.int (0 : Int32))] [])) (fun X t q => XS.dstore X.here C.hx rfl (hb C.hby d4_194) rfl (l' := #[.val (.ref o0), .val (.long (1000 : Int64)), .second, .val (.ref b2), .val (.long (0 : Int64)), .second, .val (.ref b169), .val (.int (0 : Int32)), .val (.double z3), .second, .val (.int (0 : Int32))]) rfl q) ?_
  refine Wk.st (g' := (mkF m 197 #[.val (.ref o0), .val (.long (1000 : Int64)), .second, .val (.ref b2), .val (.long (0 : Int64)), .second, .val (.ref b169), .val (.int (0 : Int32)), .val (.double z3), .second, .val (.int (0 : Int32))] [(.int (0 : Int32))])) (fun X t q => XS.iconst X.here C.hx rfl (hb C.hby d4_196) q) ?_
  refine Wk.st (g' := (mkF m 199 #[.val (.ref o0), .val (.long (1000 : Int64)), .second, .val (.ref b2), .val (.long (0 : Int64)), .second, .val (.ref b169), .val (.int (0 : Int32)), .val (.double z3), .second, .val (.int (0 : Int32))] [])) (fun X t q => XS.istore X.here C.hx rfl (hb C.hby d4_197) rfl (l' := #[.val (.ref o0), .val (.long (1000 : Int64)), .second, .val (.ref b2), .val (.long (0 : Int64)), .second, .val (.ref b169), .val (.int (0 : Int32)), .val (.double z3), .second, .val (.int (0 : Int32))]) rfl q) ?_
  refine Wk.st (g' := (mkF m 201 #[.val (.ref o0), .val (.long (1000 : Int64)), .second, .val (.ref b2), .val (.long (0 : Int64)), .second, .val (.ref b169), .val (.int (0 : Int32)), .val (.double z3), .second, .val (.int (0 : Int32))] [(.int (0 : Int32))])) (fun X t q => XS.iload X.here C.hx rfl (hb C.hby d4_199) rfl q) ?_
  refine Wk.st (g' := (mkF m 202 #[.val (.ref o0), .val (.long (1000 : Int64)), .second, .val (.ref b2), .val (.long (0 : Int64)), .second, .val (.ref b169), .val (.int (0 : Int32)), .val (.double z3), .second, .val (.int (0 : Int32))] [(.ref o0), (.int (0 : Int32))])) (fun X t q => XS.aloadN X.here C.hx rfl (hb C.hby d4_201) rfl rfl q) ?_
  refine Wk.getF C (hw _ (List.mem_of_getElem? (i := 27) rfl)) Via.refl F256 d4_202 ?_
  show Wk _ p l e _ s m _ below meth c n0 _ h240 2 4 (mkF m 205 #[.val (.ref o0), .val (.long (1000 : Int64)), .second, .val (.ref b2), .val (.long (0 : Int64)), .second, .val (.ref b169), .val (.int (0 : Int32)), .val (.double z3), .second, .val (.int (0 : Int32))] [(.ref o5), (.int (0 : Int32))])
  refine Wk.st (g' := (mkF m 207 #[.val (.ref o0), .val (.long (1000 : Int64)), .second, .val (.ref b2), .val (.long (0 : Int64)), .second, .val (.ref b169), .val (.int (0 : Int32)), .val (.double z3), .second, .val (.int (0 : Int32))] [(.int (0 : Int32)), (.ref o5), (.int (0 : Int32))])) (fun X t q => XS.iload X.here C.hx rfl (hb C.hby d4_205) rfl q) ?_
  refine Wk.fLdI C F255 (i := 0) (by decide) (by decide) (by decide) (v := (.int (0 : Int32))) rfl d4_207 ?_
  show Wk _ p l e _ s m _ below meth c n0 _ h240 2 4 (mkF m 208 #[.val (.ref o0), .val (.long (1000 : Int64)), .second, .val (.ref b2), .val (.long (0 : Int64)), .second, .val (.ref b169), .val (.int (0 : Int32)), .val (.double z3), .second, .val (.int (0 : Int32))] [(.int (0 : Int32)), (.int (0 : Int32))])
  refine Wk.st (g' := (mkF m 246 #[.val (.ref o0), .val (.long (1000 : Int64)), .second, .val (.ref b2), .val (.long (0 : Int64)), .second, .val (.ref b169), .val (.int (0 : Int32)), .val (.double z3), .second, .val (.int (0 : Int32))] [])) (fun X t q => XS.icmpYes X.here C.hx rfl (pc0 := 208) (pc' := 246) rfl (hb C.hby d4_208) rfl (XT.ii_ge_t (by decide)) (by decide) (by decide) q) ?_
  refine Wk.st (g' := (mkF m 248 #[.val (.ref o0), .val (.long (1000 : Int64)), .second, .val (.ref b2), .val (.long (0 : Int64)), .second, .val (.ref b169), .val (.int (0 : Int32)), .val (.double z3), .second, .val (.int (0 : Int32))] [(.ref b169)])) (fun X t q => XS.aload X.here C.hx rfl (hb C.hby d4_246) rfl rfl q) ?_
  refine Wk.st (g' := (mkF m 250 #[.val (.ref o0), .val (.long (1000 : Int64)), .second, .val (.ref b2), .val (.long (0 : Int64)), .second, .val (.ref b169), .val (.int (0 : Int32)), .val (.double z3), .second, .val (.int (0 : Int32))] [(.int (0 : Int32)), (.ref b169)])) (fun X t q => XS.iload X.here C.hx rfl (hb C.hby d4_248) rfl q) ?_
  refine Wk.st (g' := (mkF m 252 #[.val (.ref o0), .val (.long (1000 : Int64)), .second, .val (.ref b2), .val (.long (0 : Int64)), .second, .val (.ref b169), .val (.int (0 : Int32)), .val (.double z3), .second, .val (.int (0 : Int32))] [(.double z3), (.int (0 : Int32)), (.ref b169)])) (fun X t q => XS.dload X.here C.hx rfl (hb C.hby d4_250) rfl q) ?_
  refine Wk.st (g' := (mkF m 253 #[.val (.ref o0), .val (.long (1000 : Int64)), .second, .val (.ref b2), .val (.long (0 : Int64)), .second, .val (.ref b169), .val (.int (0 : Int32)), .val (.double z3), .second, .val (.int (0 : Int32))] [(.ref b2), (.double z3), (.int (0 : Int32)), (.ref b169)])) (fun X t q => XS.aloadN X.here C.hx rfl (hb C.hby d4_252) rfl rfl q) ?_
  refine Wk.st (g' := (mkF m 255 #[.val (.ref o0), .val (.long (1000 : Int64)), .second, .val (.ref b2), .val (.long (0 : Int64)), .second, .val (.ref b169), .val (.int (0 : Int32)), .val (.double z3), .second, .val (.int (0 : Int32))] [(.int (0 : Int32)), (.ref b2), (.double z3), (.int (0 : Int32)), (.ref b169)])) (fun X t q => XS.iload X.here C.hx rfl (hb C.hby d4_253) rfl q) ?_
  refine Wk.fLdD C F286 (i := 0) (by decide) (by decide) (by decide) (v := (.double z1)) (by simp [up]) d4_255 ?_
  show Wk _ p l e _ s m _ below meth c n0 _ h240 2 4 (mkF m 256 #[.val (.ref o0), .val (.long (1000 : Int64)), .second, .val (.ref b2), .val (.long (0 : Int64)), .second, .val (.ref b169), .val (.int (0 : Int32)), .val (.double z3), .second, .val (.int (0 : Int32))] [(.double z1), (.double z3), (.int (0 : Int32)), (.ref b169)])
  refine Wk.st (g' := (mkF m 257 #[.val (.ref o0), .val (.long (1000 : Int64)), .second, .val (.ref b2), .val (.long (0 : Int64)), .second, .val (.ref b169), .val (.int (0 : Int32)), .val (.double z3), .second, .val (.int (0 : Int32))] [(.double (FP.ddiv z3 z1)), (.int (0 : Int32)), (.ref b169)])) (fun X t q => XS.ddivS X.here C.hx rfl (hb C.hby d4_256) rfl nn_1 rfl q) ?_
  refine Wk.fStD C F242 (i := 0) (by decide) (by decide) (by decide) ge191 d4_257 ?_
  intro h291 W292 F293
  have F294 : Exa Z h291 o0 "com/example/torino/torino/AbsorbingChain" := F243.wr W292
  have F295 : Fld Z h291 o0 "com/example/torino/torino/AbsorbingChain" "markedRow" "I" (.int (-1 : Int32)) := F244.other W292 (Or.inl ne174)
  have F296 : Fld Z h291 o0 "com/example/torino/torino/AbsorbingChain" "size" "I" (.int (2 : Int32)) := F245.other W292 (Or.inl ne174)
  have F297 : Exa Z h291 o1 "[D" := F246.wr W292
  have F298 : Fld Z h291 o0 "com/example/torino/torino/AbsorbingChain" "exitProbabilities" "[D" (.ref o1) := F247.other W292 (Or.inl ne174)
  have F299 : Exa Z h291 o2 "[D" := F248.wr W292
  have F300 : Fld Z h291 o0 "com/example/torino/torino/AbsorbingChain" "exitValues" "[D" (.ref o2) := F249.other W292 (Or.inl ne174)
  have F301 : Exa Z h291 o3 "[[I" := F250.wr W292
  have F302 : Fld Z h291 o0 "com/example/torino/torino/AbsorbingChain" "nexts" "[[I" (.ref o3) := F251.other W292 (Or.inl ne174)
  have F303 : Exa Z h291 o4 "[[D" := F252.wr W292
  have F304 : Fld Z h291 o0 "com/example/torino/torino/AbsorbingChain" "probabilities" "[[D" (.ref o4) := F253.other W292 (Or.inl ne174)
  have F305 : Exa Z h291 o5 "[I" := F254.wr W292
  have F306 : Fa Z h291 o5 .int 2 (fun _ => (.int (0 : Int32))) := F255.other W292 ne179
  have F307 : Fld Z h291 o0 "com/example/torino/torino/AbsorbingChain" "lengths" "[I" (.ref o5) := F256.other W292 (Or.inl ne174)
  have F308 : Exa Z h291 o6 "[[I" := F257.wr W292
  have F309 : Fld Z h291 o0 "com/example/torino/torino/AbsorbingChain" "predecessors" "[[I" (.ref o6) := F258.other W292 (Or.inl ne174)
  have F310 : Exa Z h291 o7 "[I" := F259.wr W292
  have F311 : Fa Z h291 o7 .int 2 (fun _ => (.int (0 : Int32))) := F260.other W292 ne181
  have F312 : Fld Z h291 o0 "com/example/torino/torino/AbsorbingChain" "predecessorCounts" "[I" (.ref o7) := F261.other W292 (Or.inl ne174)
  have F313 : Exa Z h291 o8 "[I" := F262.wr W292
  have F314 : Fa Z h291 o8 .int 2 (fun _ => (.int (0 : Int32))) := F263.other W292 ne182
  have F315 : Fld Z h291 o0 "com/example/torino/torino/AbsorbingChain" "entryMarks" "[I" (.ref o8) := F264.other W292 (Or.inl ne174)
  have F316 : Exa Z h291 o9 "[I" := F265.wr W292
  have F317 : Fa Z h291 o9 .int 2 (fun _ => (.int (0 : Int32))) := F266.other W292 ne183
  have F318 : Fld Z h291 o0 "com/example/torino/torino/AbsorbingChain" "entries" "[I" (.ref o9) := F267.other W292 (Or.inl ne174)
  have F319 : Exa Z h291 o10 "[I" := F268.wr W292
  have F320 : Fa Z h291 o10 .int 2 (fun _ => (.int (0 : Int32))) := F269.other W292 ne184
  have F321 : Exa Z h291 o12 "[D" := F270.wr W292
  have F322 : Fa Z h291 o12 .double 2 (fun _ => (.double (0 : UInt64))) := F271.other W292 ne185
  have F323 : Exa Z h291 o14 "[I" := F272.wr W292
  have F324 : Fa Z h291 o14 .int 2 (fun _ => (.int (0 : Int32))) := F273.other W292 ne186
  have F325 : Exa Z h291 o11 "[I" := F274.wr W292
  have F326 : Fa Z h291 o11 .int 2 (fun _ => (.int (0 : Int32))) := F275.other W292 ne187
  have F327 : FaA Z h291 o3 .int "[I" 2 (up (up (fun _ => .null) 0 (.ref o10)) 1 (.ref o11)) := F276.other W292 ne177
  have F328 : Exa Z h291 o13 "[D" := F277.wr W292
  have F329 : Fa Z h291 o13 .double 2 (fun _ => (.double (0 : UInt64))) := F278.other W292 ne188
  have F330 : FaA Z h291 o4 .double "[D" 2 (up (up (fun _ => .null) 0 (.ref o12)) 1 (.ref o13)) := F279.other W292 ne178
  have F331 : Exa Z h291 o15 "[I" := F280.wr W292
  have F332 : Fa Z h291 o15 .int 2 (fun _ => (.int (0 : Int32))) := F281.other W292 ne189
  have F333 : FaA Z h291 o6 .int "[I" 2 (up (up (fun _ => .null) 0 (.ref o14)) 1 (.ref o15)) := F282.other W292 ne180
  have F334 : Fa Z h291 o1 .double 2 (up (up (fun _ => (.double (0 : UInt64))) 0 (.double z1)) 1 (.double z0)) := F283.other W292 ne175
  have F335 : Fa Z h291 o2 .double 2 (up (up (fun _ => (.double (0 : UInt64))) 0 (.double z3)) 1 (.double z2)) := F284.other W292 ne176
  have F336 : Exa Z h291 b2 "[D" := F285.wr W292
  have F337 : Fa Z h291 b2 .double 2 (up (up (fun _ => (.double (0 : UInt64))) 0 (.double z1)) 1 (.double z0)) := F286.other W292 ne190
  have F338 : Exa Z h291 b169 "[D" := F287.wr W292
  have sz339 : n0 ≤ h291.size := Nat.le_trans sz288 (Nat.le_of_eq W292.size.symm)
  have sy340 : h0.size ≤ h291.size := Nat.le_trans sy289 (Nat.le_of_eq W292.size.symm)
  have K341 := K290.wr W292 (Or.inr gz192)
  show Wk _ p l e _ s m _ below meth c n0 _ h291 2 4 (mkF m 258 #[.val (.ref o0), .val (.long (1000 : Int64)), .second, .val (.ref b2), .val (.long (0 : Int64)), .second, .val (.ref b169), .val (.int (0 : Int32)), .val (.double z3), .second, .val (.int (0 : Int32))] [])
  refine Wk.st (g' := (mkF m 261 #[.val (.ref o0), .val (.long (1000 : Int64)), .second, .val (.ref b2), .val (.long (0 : Int64)), .second, .val (.ref b169), .val (.int (-1 : Int32)), .val (.double z3), .second, .val (.int (0 : Int32))] [])) (fun X t q => XS.iinc X.here C.hx rfl (hb C.hby d4_258) rfl (l' := #[.val (.ref o0), .val (.long (1000 : Int64)), .second, .val (.ref b2), .val (.long (0 : Int64)), .second, .val (.ref b169), .val (.int (-1 : Int32)), .val (.double z3), .second, .val (.int (0 : Int32))]) rfl q) ?_
  refine Wk.st (g' := (mkF m 182 #[.val (.ref o0), .val (.long (1000 : Int64)), .second, .val (.ref b2), .val (.long (0 : Int64)), .second, .val (.ref b169), .val (.int (-1 : Int32)), .val (.double z3), .second, .val (.int (0 : Int32))] [])) (fun X t q => XS.goto X.here C.hx rfl (pc0 := 261) (pc' := 182) rfl (hb C.hby d4_261) (by decide) (by decide) q) ?_
  refine Wk.st (g' := (mkF m 184 #[.val (.ref o0), .val (.long (1000 : Int64)), .second, .val (.ref b2), .val (.long (0 : Int64)), .second, .val (.ref b169), .val (.int (-1 : Int32)), .val (.double z3), .second, .val (.int (0 : Int32))] [(.int (-1 : Int32))])) (fun X t q => XS.iload X.here C.hx rfl (hb C.hby d4_182) rfl q) ?_
  refine Wk.st (g' := (mkF m 264 #[.val (.ref o0), .val (.long (1000 : Int64)), .second, .val (.ref b2), .val (.long (0 : Int64)), .second, .val (.ref b169), .val (.int (-1 : Int32)), .val (.double z3), .second, .val (.int (0 : Int32))] [])) (fun X t q => XS.ifYes X.here C.hx rfl (pc0 := 184) (pc' := 264) rfl (hb C.hby d4_184) rfl (XT.i0_lt_t (by decide)) (by decide) (by decide) q) ?_
  refine Wk.st (g' := (mkF m 266 #[.val (.ref o0), .val (.long (1000 : Int64)), .second, .val (.ref b2), .val (.long (0 : Int64)), .second, .val (.ref b169), .val (.int (-1 : Int32)), .val (.double z3), .second, .val (.int (0 : Int32))] [(.ref b169)])) (fun X t q => XS.aload X.here C.hx rfl (hb C.hby d4_264) rfl rfl q) ?_
  exact Wk.retV C (t := (.array .double)) rfl rfl (Or.inr (Or.inr (Or.inr (Or.inr ⟨rfl, rfl, rfl⟩)))) d4_266 (by decide) (by decide) ⟨b169, rfl, K341, gz192, F338, F293.congr (fun i hi => by simp only [up]; (repeat' split) <;> first | rfl | (exfalso; omega))⟩
set_option maxRecDepth 65536 in
set_option maxHeartbeats 40000000 in
theorem law_met (l : Launch) (Z : State) (a0 : Array Value) (hw : ∀ d ∈ tables_1, d.before a0 Z = true) (n0 : Nat) (h0 : Heap) (hsz : n0 ≤ h0.size) (i0 i1 i2 i3 i4 i5 : Int32) :
    Met false l Z n0 x code maxLocals ret room_1 #[(.int i0), (.int i1), (.int i2), (.int i3), (.int i4), (.int i5)] h0 (fun v _ => v = some (.int 1) ∧ True) := by
  refine Met.of (plainFor_of_name pn_1) #[.val (.int i0), .val (.int i1), .val (.int i2), .val (.int i3), .val (.int i4), .val (.int i5), .unset, .unset, .unset, .unset, .unset, .unset, .unset, .unset, .unset, .unset, .unset] (fun m => by first | (simp [entryFrame, mkF, argsToLocals, Value.category, maxLocals]; done) | rfl) ?_
  intro p e s m below meth c C
  refine Wk.st (g' := (mkF m 2 #[.val (.int i0), .val (.int i1), .val (.int i2), .val (.int i3), .val (.int i4), .val (.int i5), .unset, .unset, .unset, .unset, .unset, .unset, .unset, .unset, .unset, .unset, .unset] [(.int i5)])) (fun X t q => XS.iload X.here C.hx rfl (hb C.hby at_0) rfl q) ?_
  refine Wk.st (g' := (mkF m 3 #[.val (.int i0), .val (.int i1), .val (.int i2), .val (.int i3), .val (.int i4), .val (.int i5), .unset, .unset, .unset, .unset, .unset, .unset, .unset, .unset, .unset, .unset, .unset] [(.int (1 : Int32)), (.int i5)])) (fun X t q => XS.iconst X.here C.hx rfl (hb C.hby at_2) q) ?_
  refine Wk.st (g' := (mkF m 4 #[.val (.int i0), .val (.int i1), .val (.int i2), .val (.int i3), .val (.int i4), .val (.int i5), .unset, .unset, .unset, .unset, .unset, .unset, .unset, .unset, .unset, .unset, .unset] [(.int (i5 &&& (1 : Int32)))])) (fun X t q => XS.iand X.here C.hx rfl (hb C.hby at_3) rfl q) ?_
  refine Wk.st (g' := (mkF m 6 #[.val (.int i0), .val (.int i1), .val (.int i2), .val (.int i3), .val (.int i4), .val (.int i5), .val (.int (i5 &&& (1 : Int32))), .unset, .unset, .unset, .unset, .unset, .unset, .unset, .unset, .unset, .unset] [])) (fun X t q => XS.istore X.here C.hx rfl (hb C.hby at_4) rfl (l' := #[.val (.int i0), .val (.int i1), .val (.int i2), .val (.int i3), .val (.int i4), .val (.int i5), .val (.int (i5 &&& (1 : Int32))), .unset, .unset, .unset, .unset, .unset, .unset, .unset, .unset, .unset, .unset]) rfl q) ?_
  rcases and1 i5 with hs | hs <;> rw [hs]
  · skip
    show Wk _ p l e _ s m _ below meth c n0 _ h0 0 0 (mkF m 6 #[.val (.int i0), .val (.int i1), .val (.int i2), .val (.int i3), .val (.int i4), .val (.int i5), .val (.int (0 : Int32)), .unset, .unset, .unset, .unset, .unset, .unset, .unset, .unset, .unset, .unset] [])
    refine Wk.st (g' := (mkF m 7 #[.val (.int i0), .val (.int i1), .val (.int i2), .val (.int i3), .val (.int i4), .val (.int i5), .val (.int (0 : Int32)), .unset, .unset, .unset, .unset, .unset, .unset, .unset, .unset, .unset, .unset] [(.int (1 : Int32))])) (fun X t q => XS.iconst X.here C.hx rfl (hb C.hby at_6) q) ?_
    refine Wk.st (g' := (mkF m 9 #[.val (.int i0), .val (.int i1), .val (.int i2), .val (.int i3), .val (.int i4), .val (.int i5), .val (.int (0 : Int32)), .unset, .unset, .unset, .unset, .unset, .unset, .unset, .unset, .unset, .unset] [(.int (0 : Int32)), (.int (1 : Int32))])) (fun X t q => XS.iload X.here C.hx rfl (hb C.hby at_7) rfl q) ?_
    refine Wk.st (g' := (mkF m 10 #[.val (.int i0), .val (.int i1), .val (.int i2), .val (.int i3), .val (.int i4), .val (.int i5), .val (.int (0 : Int32)), .unset, .unset, .unset, .unset, .unset, .unset, .unset, .unset, .unset, .unset] [(.int (1 : Int32))])) (fun X t q => XS.isub X.here C.hx rfl (hb C.hby at_9) rfl q) ?_
    refine Wk.st (g' := (mkF m 12 #[.val (.int i0), .val (.int i1), .val (.int i2), .val (.int i3), .val (.int i4), .val (.int i5), .val (.int (0 : Int32)), .val (.int (1 : Int32)), .unset, .unset, .unset, .unset, .unset, .unset, .unset, .unset, .unset] [])) (fun X t q => XS.istore X.here C.hx rfl (hb C.hby at_10) rfl (l' := #[.val (.int i0), .val (.int i1), .val (.int i2), .val (.int i3), .val (.int i4), .val (.int i5), .val (.int (0 : Int32)), .val (.int (1 : Int32)), .unset, .unset, .unset, .unset, .unset, .unset, .unset, .unset, .unset]) rfl q) ?_
    refine Wk.st (g' := (mkF m 13 #[.val (.int i0), .val (.int i1), .val (.int i2), .val (.int i3), .val (.int i4), .val (.int i5), .val (.int (0 : Int32)), .val (.int (1 : Int32)), .unset, .unset, .unset, .unset, .unset, .unset, .unset, .unset, .unset] [(.int i0)])) (fun X t q => XS.iloadN X.here C.hx rfl (hb C.hby at_12) rfl q) ?_
    refine Wk.st (g' := (mkF m 16 #[.val (.int i0), .val (.int i1), .val (.int i2), .val (.int i3), .val (.int i4), .val (.int i5), .val (.int (0 : Int32)), .val (.int (1 : Int32)), .unset, .unset, .unset, .unset, .unset, .unset, .unset, .unset, .unset] [(.int (511 : Int32)), (.int i0)])) (fun X t q => XS.sipush X.here C.hx rfl (hb C.hby at_13) q) ?_
    refine Wk.st (g' := (mkF m 17 #[.val (.int i0), .val (.int i1), .val (.int i2), .val (.int i3), .val (.int i4), .val (.int i5), .val (.int (0 : Int32)), .val (.int (1 : Int32)), .unset, .unset, .unset, .unset, .unset, .unset, .unset, .unset, .unset] [(.int (i0 &&& (511 : Int32)))])) (fun X t q => XS.iand X.here C.hx rfl (hb C.hby at_16) rfl q) ?_
    refine Wk.st (g' := (mkF m 18 #[.val (.int i0), .val (.int i1), .val (.int i2), .val (.int i3), .val (.int i4), .val (.int i5), .val (.int (0 : Int32)), .val (.int (1 : Int32)), .unset, .unset, .unset, .unset, .unset, .unset, .unset, .unset, .unset] [(.int (1 : Int32)), (.int (i0 &&& (511 : Int32)))])) (fun X t q => XS.iconst X.here C.hx rfl (hb C.hby at_17) q) ?_
    refine Wk.st (g' := (mkF m 19 #[.val (.int i0), .val (.int i1), .val (.int i2), .val (.int i3), .val (.int i4), .val (.int i5), .val (.int (0 : Int32)), .val (.int (1 : Int32)), .unset, .unset, .unset, .unset, .unset, .unset, .unset, .unset, .unset] [(.int ((i0 &&& (511 : Int32)) + (1 : Int32)))])) (fun X t q => XS.iadd X.here C.hx rfl (hb C.hby at_18) rfl q) ?_
    refine Wk.st (g' := (mkF m 21 #[.val (.int i0), .val (.int i1), .val (.int i2), .val (.int i3), .val (.int i4), .val (.int i5), .val (.int (0 : Int32)), .val (.int (1 : Int32)), .val (.int ((i0 &&& (511 : Int32)) + (1 : Int32))), .unset, .unset, .unset, .unset, .unset, .unset, .unset, .unset] [])) (fun X t q => XS.istore X.here C.hx rfl (hb C.hby at_19) rfl (l' := #[.val (.int i0), .val (.int i1), .val (.int i2), .val (.int i3), .val (.int i4), .val (.int i5), .val (.int (0 : Int32)), .val (.int (1 : Int32)), .val (.int ((i0 &&& (511 : Int32)) + (1 : Int32))), .unset, .unset, .unset, .unset, .unset, .unset, .unset, .unset]) rfl q) ?_
    obtain ⟨a1, ha1⟩ : ∃ z, z = ((i0 &&& (511 : Int32)) + (1 : Int32)) := ⟨_, rfl⟩
    rw [← ha1]
    have ra1 := b511p (i0)
    rw [← ha1] at ra1
    have ra1' : 0 ≤ a1.toInt ∧ a1.toInt ≤ 512 := by omega
    have ma1 := mulb ra1'.1 ra1'.2 (Int32.le_toInt i1) (Int32.toInt_lt i1)
    show Wk _ p l e _ s m _ below meth c n0 _ h0 0 0 (mkF m 21 #[.val (.int i0), .val (.int i1), .val (.int i2), .val (.int i3), .val (.int i4), .val (.int i5), .val (.int (0 : Int32)), .val (.int (1 : Int32)), .val (.int a1), .unset, .unset, .unset, .unset, .unset, .unset, .unset, .unset] [])
    refine Wk.st (g' := (mkF m 22 #[.val (.int i0), .val (.int i1), .val (.int i2), .val (.int i3), .val (.int i4), .val (.int i5), .val (.int (0 : Int32)), .val (.int (1 : Int32)), .val (.int a1), .unset, .unset, .unset, .unset, .unset, .unset, .unset, .unset] [(.int i2)])) (fun X t q => XS.iloadN X.here C.hx rfl (hb C.hby at_21) rfl q) ?_
    refine Wk.st (g' := (mkF m 25 #[.val (.int i0), .val (.int i1), .val (.int i2), .val (.int i3), .val (.int i4), .val (.int i5), .val (.int (0 : Int32)), .val (.int (1 : Int32)), .val (.int a1), .unset, .unset, .unset, .unset, .unset, .unset, .unset, .unset] [(.int (511 : Int32)), (.int i2)])) (fun X t q => XS.sipush X.here C.hx rfl (hb C.hby at_22) q) ?_
    refine Wk.st (g' := (mkF m 26 #[.val (.int i0), .val (.int i1), .val (.int i2), .val (.int i3), .val (.int i4), .val (.int i5), .val (.int (0 : Int32)), .val (.int (1 : Int32)), .val (.int a1), .unset, .unset, .unset, .unset, .unset, .unset, .unset, .unset] [(.int (i2 &&& (511 : Int32)))])) (fun X t q => XS.iand X.here C.hx rfl (hb C.hby at_25) rfl q) ?_
    refine Wk.st (g' := (mkF m 28 #[.val (.int i0), .val (.int i1), .val (.int i2), .val (.int i3), .val (.int i4), .val (.int i5), .val (.int (0 : Int32)), .val (.int (1 : Int32)), .val (.int a1), .val (.int (i2 &&& (511 : Int32))), .unset, .unset, .unset, .unset, .unset, .unset, .unset] [])) (fun X t q => XS.istore X.here C.hx rfl (hb C.hby at_26) rfl (l' := #[.val (.int i0), .val (.int i1), .val (.int i2), .val (.int i3), .val (.int i4), .val (.int i5), .val (.int (0 : Int32)), .val (.int (1 : Int32)), .val (.int a1), .val (.int (i2 &&& (511 : Int32))), .unset, .unset, .unset, .unset, .unset, .unset, .unset]) rfl q) ?_
    obtain ⟨a2, ha2⟩ : ∃ z, z = (i2 &&& (511 : Int32)) := ⟨_, rfl⟩
    rw [← ha2]
    have ra2 := b511 (i2)
    rw [← ha2] at ra2
    have ra2' : 0 ≤ a2.toInt ∧ a2.toInt ≤ 512 := by omega
    have ma2 := mulb ra2'.1 ra2'.2 (Int32.le_toInt i3) (Int32.toInt_lt i3)
    show Wk _ p l e _ s m _ below meth c n0 _ h0 0 0 (mkF m 28 #[.val (.int i0), .val (.int i1), .val (.int i2), .val (.int i3), .val (.int i4), .val (.int i5), .val (.int (0 : Int32)), .val (.int (1 : Int32)), .val (.int a1), .val (.int a2), .unset, .unset, .unset, .unset, .unset, .unset, .unset] [])
    refine Wk.st (g' := (mkF m 30 #[.val (.int i0), .val (.int i1), .val (.int i2), .val (.int i3), .val (.int i4), .val (.int i5), .val (.int (0 : Int32)), .val (.int (1 : Int32)), .val (.int a1), .val (.int a2), .unset, .unset, .unset, .unset, .unset, .unset, .unset] [(.int i5)])) (fun X t q => XS.iload X.here C.hx rfl (hb C.hby at_28) rfl q) ?_
    refine Wk.st (g' := (mkF m 31 #[.val (.int i0), .val (.int i1), .val (.int i2), .val (.int i3), .val (.int i4), .val (.int i5), .val (.int (0 : Int32)), .val (.int (1 : Int32)), .val (.int a1), .val (.int a2), .unset, .unset, .unset, .unset, .unset, .unset, .unset] [(.int (1 : Int32)), (.int i5)])) (fun X t q => XS.iconst X.here C.hx rfl (hb C.hby at_30) q) ?_
    refine Wk.st (g' := (mkF m 32 #[.val (.int i0), .val (.int i1), .val (.int i2), .val (.int i3), .val (.int i4), .val (.int i5), .val (.int (0 : Int32)), .val (.int (1 : Int32)), .val (.int a1), .val (.int a2), .unset, .unset, .unset, .unset, .unset, .unset, .unset] [(.int ((i5.toUInt32 >>> ((1 : Int32) &&& 31).toUInt32).toInt32))])) (fun X t q => XS.iushr X.here C.hx rfl (hb C.hby at_31) rfl q) ?_
    refine Wk.st (g' := (mkF m 35 #[.val (.int i0), .val (.int i1), .val (.int i2), .val (.int i3), .val (.int i4), .val (.int i5), .val (.int (0 : Int32)), .val (.int (1 : Int32)), .val (.int a1), .val (.int a2), .unset, .unset, .unset, .unset, .unset, .unset, .unset] [(.int (511 : Int32)), (.int ((i5.toUInt32 >>> ((1 : Int32) &&& 31).toUInt32).toInt32))])) (fun X t q => XS.sipush X.here C.hx rfl (hb C.hby at_32) q) ?_
    refine Wk.st (g' := (mkF m 36 #[.val (.int i0), .val (.int i1), .val (.int i2), .val (.int i3), .val (.int i4), .val (.int i5), .val (.int (0 : Int32)), .val (.int (1 : Int32)), .val (.int a1), .val (.int a2), .unset, .unset, .unset, .unset, .unset, .unset, .unset] [(.int (((i5.toUInt32 >>> ((1 : Int32) &&& 31).toUInt32).toInt32) &&& (511 : Int32)))])) (fun X t q => XS.iand X.here C.hx rfl (hb C.hby at_35) rfl q) ?_
    refine Wk.st (g' := (mkF m 37 #[.val (.int i0), .val (.int i1), .val (.int i2), .val (.int i3), .val (.int i4), .val (.int i5), .val (.int (0 : Int32)), .val (.int (1 : Int32)), .val (.int a1), .val (.int a2), .unset, .unset, .unset, .unset, .unset, .unset, .unset] [(.int (1 : Int32)), (.int (((i5.toUInt32 >>> ((1 : Int32) &&& 31).toUInt32).toInt32) &&& (511 : Int32)))])) (fun X t q => XS.iconst X.here C.hx rfl (hb C.hby at_36) q) ?_
    refine Wk.st (g' := (mkF m 38 #[.val (.int i0), .val (.int i1), .val (.int i2), .val (.int i3), .val (.int i4), .val (.int i5), .val (.int (0 : Int32)), .val (.int (1 : Int32)), .val (.int a1), .val (.int a2), .unset, .unset, .unset, .unset, .unset, .unset, .unset] [(.int ((((i5.toUInt32 >>> ((1 : Int32) &&& 31).toUInt32).toInt32) &&& (511 : Int32)) + (1 : Int32)))])) (fun X t q => XS.iadd X.here C.hx rfl (hb C.hby at_37) rfl q) ?_
    refine Wk.st (g' := (mkF m 40 #[.val (.int i0), .val (.int i1), .val (.int i2), .val (.int i3), .val (.int i4), .val (.int i5), .val (.int (0 : Int32)), .val (.int (1 : Int32)), .val (.int a1), .val (.int a2), .val (.int ((((i5.toUInt32 >>> ((1 : Int32) &&& 31).toUInt32).toInt32) &&& (511 : Int32)) + (1 : Int32))), .unset, .unset, .unset, .unset, .unset, .unset] [])) (fun X t q => XS.istore X.here C.hx rfl (hb C.hby at_38) rfl (l' := #[.val (.int i0), .val (.int i1), .val (.int i2), .val (.int i3), .val (.int i4), .val (.int i5), .val (.int (0 : Int32)), .val (.int (1 : Int32)), .val (.int a1), .val (.int a2), .val (.int ((((i5.toUInt32 >>> ((1 : Int32) &&& 31).toUInt32).toInt32) &&& (511 : Int32)) + (1 : Int32))), .unset, .unset, .unset, .unset, .unset, .unset]) rfl q) ?_
    obtain ⟨a3, ha3⟩ : ∃ z, z = ((((i5.toUInt32 >>> ((1 : Int32) &&& 31).toUInt32).toInt32) &&& (511 : Int32)) + (1 : Int32)) := ⟨_, rfl⟩
    rw [← ha3]
    have ra3 := b511p (((i5.toUInt32 >>> ((1 : Int32) &&& 31).toUInt32).toInt32))
    rw [← ha3] at ra3
    have ra3' : 0 ≤ a3.toInt ∧ a3.toInt ≤ 512 := by omega
    have ma3 := mulb ra3'.1 ra3'.2 (Int32.le_toInt i4) (Int32.toInt_lt i4)
    show Wk _ p l e _ s m _ below meth c n0 _ h0 0 0 (mkF m 40 #[.val (.int i0), .val (.int i1), .val (.int i2), .val (.int i3), .val (.int i4), .val (.int i5), .val (.int (0 : Int32)), .val (.int (1 : Int32)), .val (.int a1), .val (.int a2), .val (.int a3), .unset, .unset, .unset, .unset, .unset, .unset] [])
    refine Wk.newO C (hw _ (List.mem_of_getElem? (i := 0) rfl)) (hw _ (List.mem_of_getElem? (i := 1) rfl)) (hw _ (List.mem_of_getElem? (i := 2) rfl)) at_40 (by decide) (by decide) ?_
    intro h1 b2 g3 E4 A5 D6
    have ge7 : n0 ≤ b2 := Nat.le_trans hsz (Nat.le_of_eq g3.symm)
    have gz8 : h0.size ≤ b2 := Nat.le_trans (Nat.le_refl h0.size) (Nat.le_of_eq g3.symm)
    have sz9 : n0 ≤ h1.size := Nat.le_trans hsz E4.1
    have sy10 : h0.size ≤ h1.size := Nat.le_trans (Nat.le_refl h0.size) E4.1
    have F11 : Fld Z h1 b2 "com/example/torino/torino/AbsorbingChain" "markedRow" "I" (.int (0 : Int32)) := D6 (Or.inl (hw _ (List.mem_of_getElem? (i := 10) rfl))) (ty := .int) (by decide)
    have F12 : Fld Z h1 b2 "com/example/torino/torino/AbsorbingChain" "size" "I" (.int (0 : Int32)) := D6 (Or.inr (hw _ (List.mem_of_getElem? (i := 12) rfl))) (ty := .int) (by decide)
    have F13 : Fld Z h1 b2 "com/example/torino/torino/AbsorbingChain" "exitProbabilities" "[D" .null := D6 (Or.inr (hw _ (List.mem_of_getElem? (i := 15) rfl))) (ty := (.array .double)) (by decide)
    have F14 : Fld Z h1 b2 "com/example/torino/torino/AbsorbingChain" "exitValues" "[D" .null := D6 (Or.inr (hw _ (List.mem_of_getElem? (i := 17) rfl))) (ty := (.array .double)) (by decide)
    have F15 : Fld Z h1 b2 "com/example/torino/torino/AbsorbingChain" "nexts" "[[I" .null := D6 (Or.inr (hw _ (List.mem_of_getElem? (i := 21) rfl))) (ty := (.array (.array .int))) (by decide)
    have F16 : Fld Z h1 b2 "com/example/torino/torino/AbsorbingChain" "probabilities" "[[D" .null := D6 (Or.inr (hw _ (List.mem_of_getElem? (i := 25) rfl))) (ty := (.array (.array .double))) (by decide)
    have F17 : Fld Z h1 b2 "com/example/torino/torino/AbsorbingChain" "lengths" "[I" .null := D6 (Or.inr (hw _ (List.mem_of_getElem? (i := 28) rfl))) (ty := (.array .int)) (by decide)
    have F18 : Fld Z h1 b2 "com/example/torino/torino/AbsorbingChain" "predecessors" "[[I" .null := D6 (Or.inr (hw _ (List.mem_of_getElem? (i := 30) rfl))) (ty := (.array (.array .int))) (by decide)
    have F19 : Fld Z h1 b2 "com/example/torino/torino/AbsorbingChain" "predecessorCounts" "[I" .null := D6 (Or.inr (hw _ (List.mem_of_getElem? (i := 32) rfl))) (ty := (.array .int)) (by decide)
    have F20 : Fld Z h1 b2 "com/example/torino/torino/AbsorbingChain" "entryMarks" "[I" .null := D6 (Or.inr (hw _ (List.mem_of_getElem? (i := 34) rfl))) (ty := (.array .int)) (by decide)
    have F21 : Fld Z h1 b2 "com/example/torino/torino/AbsorbingChain" "entries" "[I" .null := D6 (Or.inr (hw _ (List.mem_of_getElem? (i := 36) rfl))) (ty := (.array .int)) (by decide)
    show Wk _ p l e _ s m _ below meth c n0 _ h1 1 12 (mkF m 43 #[.val (.int i0), .val (.int i1), .val (.int i2), .val (.int i3), .val (.int i4), .val (.int i5), .val (.int (0 : Int32)), .val (.int (1 : Int32)), .val (.int a1), .val (.int a2), .val (.int a3), .unset, .unset, .unset, .unset, .unset, .unset] [(.ref b2)])
    refine Wk.st (g' := (mkF m 44 #[.val (.int i0), .val (.int i1), .val (.int i2), .val (.int i3), .val (.int i4), .val (.int i5), .val (.int (0 : Int32)), .val (.int (1 : Int32)), .val (.int a1), .val (.int a2), .val (.int a3), .unset, .unset, .unset, .unset, .unset, .unset] [(.ref b2), (.ref b2)])) (fun X t q => XS.dup X.here C.hx rfl (hb C.hby at_43) rfl rfl q) ?_
    refine Wk.st (g' := (mkF m 45 #[.val (.int i0), .val (.int i1), .val (.int i2), .val (.int i3), .val (.int i4), .val (.int i5), .val (.int (0 : Int32)), .val (.int (1 : Int32)), .val (.int a1), .val (.int a2), .val (.int a3), .unset, .unset, .unset, .unset, .unset, .unset] [(.int (2 : Int32)), (.ref b2), (.ref b2)])) (fun X t q => XS.iconst X.here C.hx rfl (hb C.hby at_44) q) ?_
    refine Wk.callI C (z := (⟨"com/example/torino/torino/AbsorbingChain", "<init>", "(I)V"⟩ : MethodName)) rfl (hw _ (List.mem_of_getElem? (i := 3) rfl)) (hw _ (List.mem_of_getElem? (i := 4) rfl)) (hw _ (List.mem_of_getElem? (i := 2) rfl)) (hw _ (List.mem_of_getElem? (i := 5) rfl)) (by decide) (own_1_0 l Z a0 hw n0 h1 sz9 b2  A5 F11 F12 F13 F14 F15 F16 F17 F18 F19 F20 F21  ge7) (w := 1) (by decide) (by decide) pd_0 rfl (rest := [(.ref b2)]) rfl rfl (Nat.le_of_eq rfl) (by decide) (by decide) at_45 ?_
    rintro _ h23 ⟨n22_b36, n22_b79, n22_b127, n22_b180, n22_b238, n22_b301, n22_b369, n22_b442, n22_b520, n22_b603, n22_b882, n22_b691, n22_b985, n22_b784, n22_b1093, rfl, K24, gn66, gn67, gn68, gn69, gn70, gn71, gn72, gn73, gn74, gn75, gn76, gn77, gn78, gn79, gn80, ne81, ne82, ne83, ne84, ne85, ne86, ne87, ne88, ne89, ne90, ne91, ne92, ne93, ne94, ne95, ne96, ne97, ne98, ne99, ne100, ne101, ne102, ne103, ne104, ne105, ne106, ne107, ne108, ne109, ne110, ne111, ne112, ne113, ne114, ne115, ne116, ne117, ne118, ne119, ne120, ne121, ne122, ne123, ne124, ne125, ne126, ne127, ne128, ne129, ne130, ne131, ne132, ne133, ne134, ne135, ne136, ne137, ne138, ne139, ne140, ne141, ne142, ne143, ne144, ne145, ne146, ne147, ne148, ne149, ne150, ne151, ne152, ne153, ne154, ne155, ne156, ne157, ne158, ne159, ne160, ne161, ne162, ne163, ne164, ne165, ne166, ne167, ne168, ne169, ne170, ne171, ne172, ne173, ne174, ne175, ne176, ne177, ne178, ne179, ne180, ne181, ne182, ne183, ne184, ne185, F25, F26, F27, F28, F29, F30, F31, F32, F33, F34, F35, F36, F37, F38, F39, F40, F41, F42, F43, F44, F45, F46, F47, F48, F49, F50, F51, F52, F53, F54, F55, F56, F57, F58, F59, F60, F61, F62, F63, F64, F65⟩
    show Wk _ p l e _ s m _ below meth c n0 _ h23 16 42 (mkF m 48 #[.val (.int i0), .val (.int i1), .val (.int i2), .val (.int i3), .val (.int i4), .val (.int i5), .val (.int (0 : Int32)), .val (.int (1 : Int32)), .val (.int a1), .val (.int a2), .val (.int a3), .unset, .unset, .unset, .unset, .unset, .unset] [(.ref b2)])
    have ne186 : b2 ≠ n22_b36 := Nat.ne_of_lt (Nat.lt_of_lt_of_le A5.lt gn66)
    have ge187 : n0 ≤ n22_b36 := Nat.le_trans sz9 gn66
    have gz188 : h0.size ≤ n22_b36 := Nat.le_trans sy10 gn66
    have ne189 : b2 ≠ n22_b79 := Nat.ne_of_lt (Nat.lt_of_lt_of_le A5.lt gn67)
    have ge190 : n0 ≤ n22_b79 := Nat.le_trans sz9 gn67
    have gz191 : h0.size ≤ n22_b79 := Nat.le_trans sy10 gn67
    have ne192 : b2 ≠ n22_b127 := Nat.ne_of_lt (Nat.lt_of_lt_of_le A5.lt gn68)
    have ge193 : n0 ≤ n22_b127 := Nat.le_trans sz9 gn68
    have gz194 : h0.size ≤ n22_b127 := Nat.le_trans sy10 gn68
    have ne195 : b2 ≠ n22_b180 := Nat.ne_of_lt (Nat.lt_of_lt_of_le A5.lt gn69)
    have ge196 : n0 ≤ n22_b180 := Nat.le_trans sz9 gn69
    have gz197 : h0.size ≤ n22_b180 := Nat.le_trans sy10 gn69
    have ne198 : b2 ≠ n22_b238 := Nat.ne_of_lt (Nat.lt_of_lt_of_le A5.lt gn70)
    have ge199 : n0 ≤ n22_b238 := Nat.le_trans sz9 gn70
    have gz200 : h0.size ≤ n22_b238 := Nat.le_trans sy10 gn70
    have ne201 : b2 ≠ n22_b301 := Nat.ne_of_lt (Nat.lt_of_lt_of_le A5.lt gn71)
    have ge202 : n0 ≤ n22_b301 := Nat.le_trans sz9 gn71
    have gz203 : h0.size ≤ n22_b301 := Nat.le_trans sy10 gn71
    have ne204 : b2 ≠ n22_b369 := Nat.ne_of_lt (Nat.lt_of_lt_of_le A5.lt gn72)
    have ge205 : n0 ≤ n22_b369 := Nat.le_trans sz9 gn72
    have gz206 : h0.size ≤ n22_b369 := Nat.le_trans sy10 gn72
    have ne207 : b2 ≠ n22_b442 := Nat.ne_of_lt (Nat.lt_of_lt_of_le A5.lt gn73)
    have ge208 : n0 ≤ n22_b442 := Nat.le_trans sz9 gn73
    have gz209 : h0.size ≤ n22_b442 := Nat.le_trans sy10 gn73
    have ne210 : b2 ≠ n22_b520 := Nat.ne_of_lt (Nat.lt_of_lt_of_le A5.lt gn74)
    have ge211 : n0 ≤ n22_b520 := Nat.le_trans sz9 gn74
    have gz212 : h0.size ≤ n22_b520 := Nat.le_trans sy10 gn74
    have ne213 : b2 ≠ n22_b603 := Nat.ne_of_lt (Nat.lt_of_lt_of_le A5.lt gn75)
    have ge214 : n0 ≤ n22_b603 := Nat.le_trans sz9 gn75
    have gz215 : h0.size ≤ n22_b603 := Nat.le_trans sy10 gn75
    have ne216 : b2 ≠ n22_b882 := Nat.ne_of_lt (Nat.lt_of_lt_of_le A5.lt gn76)
    have ge217 : n0 ≤ n22_b882 := Nat.le_trans sz9 gn76
    have gz218 : h0.size ≤ n22_b882 := Nat.le_trans sy10 gn76
    have ne219 : b2 ≠ n22_b691 := Nat.ne_of_lt (Nat.lt_of_lt_of_le A5.lt gn77)
    have ge220 : n0 ≤ n22_b691 := Nat.le_trans sz9 gn77
    have gz221 : h0.size ≤ n22_b691 := Nat.le_trans sy10 gn77
    have ne222 : b2 ≠ n22_b985 := Nat.ne_of_lt (Nat.lt_of_lt_of_le A5.lt gn78)
    have ge223 : n0 ≤ n22_b985 := Nat.le_trans sz9 gn78
    have gz224 : h0.size ≤ n22_b985 := Nat.le_trans sy10 gn78
    have ne225 : b2 ≠ n22_b784 := Nat.ne_of_lt (Nat.lt_of_lt_of_le A5.lt gn79)
    have ge226 : n0 ≤ n22_b784 := Nat.le_trans sz9 gn79
    have gz227 : h0.size ≤ n22_b784 := Nat.le_trans sy10 gn79
    have ne228 : b2 ≠ n22_b1093 := Nat.ne_of_lt (Nat.lt_of_lt_of_le A5.lt gn80)
    have ge229 : n0 ≤ n22_b1093 := Nat.le_trans sz9 gn80
    have gz230 : h0.size ≤ n22_b1093 := Nat.le_trans sy10 gn80
    have F231 : Exa Z h23 b2 "com/example/torino/torino/AbsorbingChain" := A5.keep K24
    have sz232 : n0 ≤ h23.size := Nat.le_trans sz9 K24.1
    have sy233 : h0.size ≤ h23.size := Nat.le_trans sy10 K24.1
    refine Wk.st (g' := (mkF m 50 #[.val (.int i0), .val (.int i1), .val (.int i2), .val (.int i3), .val (.int i4), .val (.int i5), .val (.int (0 : Int32)), .val (.int (1 : Int32)), .val (.int a1), .val (.int a2), .val (.int a3), .val (.ref b2), .unset, .unset, .unset, .unset, .unset] [])) (fun X t q => XS.astore X.here C.hx rfl (hb C.hby at_48) rfl rfl (l' := #[.val (.int i0), .val (.int i1), .val (.int i2), .val (.int i3), .val (.int i4), .val (.int i5), .val (.int (0 : Int32)), .val (.int (1 : Int32)), .val (.int a1), .val (.int a2), .val (.int a3), .val (.ref b2), .unset, .unset, .unset, .unset, .unset]) rfl q) ?_
    refine Wk.st (g' := (mkF m 52 #[.val (.int i0), .val (.int i1), .val (.int i2), .val (.int i3), .val (.int i4), .val (.int i5), .val (.int (0 : Int32)), .val (.int (1 : Int32)), .val (.int a1), .val (.int a2), .val (.int a3), .val (.ref b2), .unset, .unset, .unset, .unset, .unset] [(.ref b2)])) (fun X t q => XS.aload X.here C.hx rfl (hb C.hby at_50) rfl rfl q) ?_
    refine Wk.st (g' := (mkF m 54 #[.val (.int i0), .val (.int i1), .val (.int i2), .val (.int i3), .val (.int i4), .val (.int i5), .val (.int (0 : Int32)), .val (.int (1 : Int32)), .val (.int a1), .val (.int a2), .val (.int a3), .val (.ref b2), .unset, .unset, .unset, .unset, .unset] [(.int (0 : Int32)), (.ref b2)])) (fun X t q => XS.iload X.here C.hx rfl (hb C.hby at_52) rfl q) ?_
    refine Wk.st (g' := (mkF m 56 #[.val (.int i0), .val (.int i1), .val (.int i2), .val (.int i3), .val (.int i4), .val (.int i5), .val (.int (0 : Int32)), .val (.int (1 : Int32)), .val (.int a1), .val (.int a2), .val (.int a3), .val (.ref b2), .unset, .unset, .unset, .unset, .unset] [(.int a1), (.int (0 : Int32)), (.ref b2)])) (fun X t q => XS.iload X.here C.hx rfl (hb C.hby at_54) rfl q) ?_
    refine Wk.st (g' := (mkF m 57 #[.val (.int i0), .val (.int i1), .val (.int i2), .val (.int i3), .val (.int i4), .val (.int i5), .val (.int (0 : Int32)), .val (.int (1 : Int32)), .val (.int a1), .val (.int a2), .val (.int a3), .val (.ref b2), .unset, .unset, .unset, .unset, .unset] [(.double (FP.i2d a1)), (.int (0 : Int32)), (.ref b2)])) (fun X t q => XS.i2dS X.here C.hx rfl (hb C.hby at_56) rfl rfl q) ?_
    refine Wk.ldc2D C (hw _ (List.mem_of_getElem? (i := 39) rfl)) at_57 ?_
    show Wk _ p l e _ s m _ below meth c n0 _ h23 16 42 (mkF m 60 #[.val (.int i0), .val (.int i1), .val (.int i2), .val (.int i3), .val (.int i4), .val (.int i5), .val (.int (0 : Int32)), .val (.int (1 : Int32)), .val (.int a1), .val (.int a2), .val (.int a3), .val (.ref b2), .unset, .unset, .unset, .unset, .unset] [(.double (4652218415073722368 : UInt64)), (.double (FP.i2d a1)), (.int (0 : Int32)), (.ref b2)])
    refine Wk.st (g' := (mkF m 61 #[.val (.int i0), .val (.int i1), .val (.int i2), .val (.int i3), .val (.int i4), .val (.int i5), .val (.int (0 : Int32)), .val (.int (1 : Int32)), .val (.int a1), .val (.int a2), .val (.int a3), .val (.ref b2), .unset, .unset, .unset, .unset, .unset] [(.double (FP.ddiv (FP.i2d a1) (4652218415073722368 : UInt64))), (.int (0 : Int32)), (.ref b2)])) (fun X t q => XS.ddivS X.here C.hx rfl (hb C.hby at_60) rfl (DSc.nn (DSc.div (Jvm.FP.Core.i2d_int a1) (nab (by omega) (by omega)))) rfl q) ?_
    refine Wk.st (g' := (mkF m 62 #[.val (.int i0), .val (.int i1), .val (.int i2), .val (.int i3), .val (.int i4), .val (.int i5), .val (.int (0 : Int32)), .val (.int (1 : Int32)), .val (.int a1), .val (.int a2), .val (.int a3), .val (.ref b2), .unset, .unset, .unset, .unset, .unset] [(.int i1), (.double (FP.ddiv (FP.i2d a1) (4652218415073722368 : UInt64))), (.int (0 : Int32)), (.ref b2)])) (fun X t q => XS.iloadN X.here C.hx rfl (hb C.hby at_61) rfl q) ?_
    refine Wk.st (g' := (mkF m 63 #[.val (.int i0), .val (.int i1), .val (.int i2), .val (.int i3), .val (.int i4), .val (.int i5), .val (.int (0 : Int32)), .val (.int (1 : Int32)), .val (.int a1), .val (.int a2), .val (.int a3), .val (.ref b2), .unset, .unset, .unset, .unset, .unset] [(.double (FP.i2d i1)), (.double (FP.ddiv (FP.i2d a1) (4652218415073722368 : UInt64))), (.int (0 : Int32)), (.ref b2)])) (fun X t q => XS.i2dS X.here C.hx rfl (hb C.hby at_62) rfl rfl q) ?_
    refine Wk.callV C (x := (⟨"com/example/torino/torino/AbsorbingChain", "addExit", "(IDD)V"⟩ : MethodName)) (z := (⟨"com/example/torino/torino/AbsorbingChain", "addExit", "(IDD)V"⟩ : MethodName)) (K := "com/example/torino/torino/AbsorbingChain") (hw _ (List.mem_of_getElem? (i := 40) rfl)) (hw _ (List.mem_of_getElem? (i := 41) rfl)) (hw _ (List.mem_of_getElem? (i := 43) rfl)) (hw _ (List.mem_of_getElem? (i := 42) rfl)) (hw _ (List.mem_of_getElem? (i := 2) rfl)) (hw _ (List.mem_of_getElem? (i := 44) rfl)) (by decide) (fun s' hZ' => notFace_of_selects (args := #[]) (mvT hZ' (hw _ (List.mem_of_getElem? (i := 43) rfl)))) F231 (own_3_1 l Z a0 hw n0 h23 sz232 b2 n22_b36 n22_b79 n22_b127 n22_b180 n22_b238 n22_b301 n22_b369 n22_b442 n22_b520 n22_b603 n22_b882 n22_b691 n22_b985 n22_b784 n22_b1093 (FP.ddiv (FP.i2d a1) (4652218415073722368 : UInt64)) (FP.i2d i1) F231 F25 F26 F27 F28 F29 F30 F31 F32 F33 F34 F35 F36 F37 F38 F39 F40 F41 F42 F43 F44 F45 F46 F47 F48 F49 F50 F51 F52 F53 F54 F55 F56 F57 F58 F59 F60 F61 F62 F63 F64 F65 ne186 ne189 ne192 ne195 ne198 ne201 ne204 ne207 ne210 ne213 ne216 ne219 ne222 ne225 ne228 ne81 ne82 ne83 ne84 ne85 ne86 ne87 ne88 ne89 ne90 ne91 ne92 ne93 ne94 ne95 ne96 ne97 ne98 ne99 ne100 ne101 ne102 ne103 ne104 ne105 ne106 ne107 ne108 ne109 ne110 ne111 ne112 ne113 ne114 ne115 ne116 ne117 ne118 ne119 ne120 ne121 ne122 ne123 ne124 ne125 ne126 ne127 ne128 ne129 ne130 ne131 ne132 ne133 ne134 ne135 ne136 ne137 ne138 ne139 ne140 ne141 ne142 ne143 ne144 ne145 ne146 ne147 ne148 ne149 ne150 ne151 ne152 ne153 ne154 ne155 ne156 ne157 ne158 ne159 ne160 ne161 ne162 ne163 ne164 ne165 ne166 ne167 ne168 ne169 ne170 ne171 ne172 ne173 ne174 ne175 ne176 ne177 ne178 ne179 ne180 ne181 ne182 ne183 ne184 ne185 ge7 ge187 ge190 ge193 ge196 ge199 ge202 ge205 ge208 ge211 ge214 ge217 ge220 ge223 ge226 ge229 (DSc.nn (DSc.add DSc.zero (DSc.div (Jvm.FP.Core.i2d_int a1) (nab (by omega) (by omega))) (nab (by omega) (by omega)))) (DSc.nn (DSc.mul (DSc.div (Jvm.FP.Core.i2d_int a1) (nab (by omega) (by omega))) (Jvm.FP.Core.i2d_int i1) (nab (by omega) (by omega)))) (DSc.nn (DSc.add DSc.zero (DSc.mul (DSc.div (Jvm.FP.Core.i2d_int a1) (nab (by omega) (by omega))) (Jvm.FP.Core.i2d_int i1) (nab (by omega) (by omega))) (nab (by omega) (by omega))))) (w := 0) (by decide) (by decide) pd_1 rfl (rest := []) rfl rfl (Nat.le_of_eq rfl) (by decide) (by decide) at_63 ?_
    rintro _ h235 ⟨rfl, K236, F237, F238⟩
    show Wk _ p l e _ s m _ below meth c n0 _ h235 16 42 (mkF m 66 #[.val (.int i0), .val (.int i1), .val (.int i2), .val (.int i3), .val (.int i4), .val (.int i5), .val (.int (0 : Int32)), .val (.int (1 : Int32)), .val (.int a1), .val (.int a2), .val (.int a3), .val (.ref b2), .unset, .unset, .unset, .unset, .unset] [])
    have F239 : Exa Z h235 b2 "com/example/torino/torino/AbsorbingChain" := F231.keep K236
    have F240 : Fld Z h235 b2 "com/example/torino/torino/AbsorbingChain" "markedRow" "I" (.int (-1 : Int32)) := F25.keep K236 (nmS ne186 (nmS ne189 nm0))
    have F241 : Fld Z h235 b2 "com/example/torino/torino/AbsorbingChain" "size" "I" (.int (2 : Int32)) := F26.keep K236 (nmS ne186 (nmS ne189 nm0))
    have F242 : Exa Z h235 n22_b36 "[D" := F27.keep K236
    have F243 : Fld Z h235 b2 "com/example/torino/torino/AbsorbingChain" "exitProbabilities" "[D" (.ref n22_b36) := F29.keep K236 (nmS ne186 (nmS ne189 nm0))
    have F244 : Exa Z h235 n22_b79 "[D" := F30.keep K236
    have F245 : Fld Z h235 b2 "com/example/torino/torino/AbsorbingChain" "exitValues" "[D" (.ref n22_b79) := F32.keep K236 (nmS ne186 (nmS ne189 nm0))
    have F246 : Exa Z h235 n22_b127 "[[I" := F33.keep K236
    have F247 : Fld Z h235 b2 "com/example/torino/torino/AbsorbingChain" "nexts" "[[I" (.ref n22_b127) := F34.keep K236 (nmS ne186 (nmS ne189 nm0))
    have F248 : Exa Z h235 n22_b180 "[[D" := F35.keep K236
    have F249 : Fld Z h235 b2 "com/example/torino/torino/AbsorbingChain" "probabilities" "[[D" (.ref n22_b180) := F36.keep K236 (nmS ne186 (nmS ne189 nm0))
    have F250 : Exa Z h235 n22_b238 "[I" := F37.keep K236
    have F251 : Fa Z h235 n22_b238 .int 2 (fun _ => (.int (0 : Int32))) := F38.keep K236 (nmS (Ne.symm ne84) (nmS (Ne.symm ne97) nm0))
    have F252 : Fld Z h235 b2 "com/example/torino/torino/AbsorbingChain" "lengths" "[I" (.ref n22_b238) := F39.keep K236 (nmS ne186 (nmS ne189 nm0))
    have F253 : Exa Z h235 n22_b301 "[[I" := F40.keep K236
    have F254 : Fld Z h235 b2 "com/example/torino/torino/AbsorbingChain" "predecessors" "[[I" (.ref n22_b301) := F41.keep K236 (nmS ne186 (nmS ne189 nm0))
    have F255 : Exa Z h235 n22_b369 "[I" := F42.keep K236
    have F256 : Fa Z h235 n22_b369 .int 2 (fun _ => (.int (0 : Int32))) := F43.keep K236 (nmS (Ne.symm ne86) (nmS (Ne.symm ne99) nm0))
    have F257 : Fld Z h235 b2 "com/example/torino/torino/AbsorbingChain" "predecessorCounts" "[I" (.ref n22_b369) := F44.keep K236 (nmS ne186 (nmS ne189 nm0))
    have F258 : Exa Z h235 n22_b442 "[I" := F45.keep K236
    have F259 : Fa Z h235 n22_b442 .int 2 (fun _ => (.int (0 : Int32))) := F46.keep K236 (nmS (Ne.symm ne87) (nmS (Ne.symm ne100) nm0))
    have F260 : Fld Z h235 b2 "com/example/torino/torino/AbsorbingChain" "entryMarks" "[I" (.ref n22_b442) := F47.keep K236 (nmS ne186 (nmS ne189 nm0))
    have F261 : Exa Z h235 n22_b520 "[I" := F48.keep K236
    have F262 : Fa Z h235 n22_b520 .int 2 (fun _ => (.int (0 : Int32))) := F49.keep K236 (nmS (Ne.symm ne88) (nmS (Ne.symm ne101) nm0))
    have F263 : Fld Z h235 b2 "com/example/torino/torino/AbsorbingChain" "entries" "[I" (.ref n22_b520) := F50.keep K236 (nmS ne186 (nmS ne189 nm0))
    have F264 : Exa Z h235 n22_b603 "[I" := F51.keep K236
    have F265 : Fa Z h235 n22_b603 .int 2 (fun _ => (.int (0 : Int32))) := F52.keep K236 (nmS (Ne.symm ne89) (nmS (Ne.symm ne102) nm0))
    have F266 : Exa Z h235 n22_b691 "[D" := F53.keep K236
    have F267 : Fa Z h235 n22_b691 .double 2 (fun _ => (.double (0 : UInt64))) := F54.keep K236 (nmS (Ne.symm ne91) (nmS (Ne.symm ne104) nm0))
    have F268 : Exa Z h235 n22_b784 "[I" := F55.keep K236
    have F269 : Fa Z h235 n22_b784 .int 2 (fun _ => (.int (0 : Int32))) := F56.keep K236 (nmS (Ne.symm ne93) (nmS (Ne.symm ne106) nm0))
    have F270 : Exa Z h235 n22_b882 "[I" := F57.keep K236
    have F271 : Fa Z h235 n22_b882 .int 2 (fun _ => (.int (0 : Int32))) := F58.keep K236 (nmS (Ne.symm ne90) (nmS (Ne.symm ne103) nm0))
    have F272 : FaA Z h235 n22_b127 .int "[I" 2 (up (up (fun _ => .null) 0 (.ref n22_b603)) 1 (.ref n22_b882)) := F59.keep K236 (nmS (Ne.symm ne82) (nmS (Ne.symm ne95) nm0))
    have F273 : Exa Z h235 n22_b985 "[D" := F60.keep K236
    have F274 : Fa Z h235 n22_b985 .double 2 (fun _ => (.double (0 : UInt64))) := F61.keep K236 (nmS (Ne.symm ne92) (nmS (Ne.symm ne105) nm0))
    have F275 : FaA Z h235 n22_b180 .double "[D" 2 (up (up (fun _ => .null) 0 (.ref n22_b691)) 1 (.ref n22_b985)) := F62.keep K236 (nmS (Ne.symm ne83) (nmS (Ne.symm ne96) nm0))
    have F276 : Exa Z h235 n22_b1093 "[I" := F63.keep K236
    have F277 : Fa Z h235 n22_b1093 .int 2 (fun _ => (.int (0 : Int32))) := F64.keep K236 (nmS (Ne.symm ne94) (nmS (Ne.symm ne107) nm0))
    have F278 : FaA Z h235 n22_b301 .int "[I" 2 (up (up (fun _ => .null) 0 (.ref n22_b784)) 1 (.ref n22_b1093)) := F65.keep K236 (nmS (Ne.symm ne85) (nmS (Ne.symm ne98) nm0))
    have sz279 : n0 ≤ h235.size := Nat.le_trans sz232 K236.1
    have sy280 : h0.size ≤ h235.size := Nat.le_trans sy233 K236.1
    refine Wk.st (g' := (mkF m 68 #[.val (.int i0), .val (.int i1), .val (.int i2), .val (.int i3), .val (.int i4), .val (.int i5), .val (.int (0 : Int32)), .val (.int (1 : Int32)), .val (.int a1), .val (.int a2), .val (.int a3), .val (.ref b2), .unset, .unset, .unset, .unset, .unset] [(.ref b2)])) (fun X t q => XS.aload X.here C.hx rfl (hb C.hby at_66) rfl rfl q) ?_
    refine Wk.st (g' := (mkF m 70 #[.val (.int i0), .val (.int i1), .val (.int i2), .val (.int i3), .val (.int i4), .val (.int i5), .val (.int (0 : Int32)), .val (.int (1 : Int32)), .val (.int a1), .val (.int a2), .val (.int a3), .val (.ref b2), .unset, .unset, .unset, .unset, .unset] [(.int (1 : Int32)), (.ref b2)])) (fun X t q => XS.iload X.here C.hx rfl (hb C.hby at_68) rfl q) ?_
    refine Wk.st (g' := (mkF m 72 #[.val (.int i0), .val (.int i1), .val (.int i2), .val (.int i3), .val (.int i4), .val (.int i5), .val (.int (0 : Int32)), .val (.int (1 : Int32)), .val (.int a1), .val (.int a2), .val (.int a3), .val (.ref b2), .unset, .unset, .unset, .unset, .unset] [(.int a3), (.int (1 : Int32)), (.ref b2)])) (fun X t q => XS.iload X.here C.hx rfl (hb C.hby at_70) rfl q) ?_
    refine Wk.st (g' := (mkF m 73 #[.val (.int i0), .val (.int i1), .val (.int i2), .val (.int i3), .val (.int i4), .val (.int i5), .val (.int (0 : Int32)), .val (.int (1 : Int32)), .val (.int a1), .val (.int a2), .val (.int a3), .val (.ref b2), .unset, .unset, .unset, .unset, .unset] [(.double (FP.i2d a3)), (.int (1 : Int32)), (.ref b2)])) (fun X t q => XS.i2dS X.here C.hx rfl (hb C.hby at_72) rfl rfl q) ?_
    refine Wk.ldc2D C (hw _ (List.mem_of_getElem? (i := 39) rfl)) at_73 ?_
    show Wk _ p l e _ s m _ below meth c n0 _ h235 16 42 (mkF m 76 #[.val (.int i0), .val (.int i1), .val (.int i2), .val (.int i3), .val (.int i4), .val (.int i5), .val (.int (0 : Int32)), .val (.int (1 : Int32)), .val (.int a1), .val (.int a2), .val (.int a3), .val (.ref b2), .unset, .unset, .unset, .unset, .unset] [(.double (4652218415073722368 : UInt64)), (.double (FP.i2d a3)), (.int (1 : Int32)), (.ref b2)])
    refine Wk.st (g' := (mkF m 77 #[.val (.int i0), .val (.int i1), .val (.int i2), .val (.int i3), .val (.int i4), .val (.int i5), .val (.int (0 : Int32)), .val (.int (1 : Int32)), .val (.int a1), .val (.int a2), .val (.int a3), .val (.ref b2), .unset, .unset, .unset, .unset, .unset] [(.double (FP.ddiv (FP.i2d a3) (4652218415073722368 : UInt64))), (.int (1 : Int32)), (.ref b2)])) (fun X t q => XS.ddivS X.here C.hx rfl (hb C.hby at_76) rfl (DSc.nn (DSc.div (Jvm.FP.Core.i2d_int a3) (nab (by omega) (by omega)))) rfl q) ?_
    refine Wk.st (g' := (mkF m 79 #[.val (.int i0), .val (.int i1), .val (.int i2), .val (.int i3), .val (.int i4), .val (.int i5), .val (.int (0 : Int32)), .val (.int (1 : Int32)), .val (.int a1), .val (.int a2), .val (.int a3), .val (.ref b2), .unset, .unset, .unset, .unset, .unset] [(.int i4), (.double (FP.ddiv (FP.i2d a3) (4652218415073722368 : UInt64))), (.int (1 : Int32)), (.ref b2)])) (fun X t q => XS.iload X.here C.hx rfl (hb C.hby at_77) rfl q) ?_
    refine Wk.st (g' := (mkF m 80 #[.val (.int i0), .val (.int i1), .val (.int i2), .val (.int i3), .val (.int i4), .val (.int i5), .val (.int (0 : Int32)), .val (.int (1 : Int32)), .val (.int a1), .val (.int a2), .val (.int a3), .val (.ref b2), .unset, .unset, .unset, .unset, .unset] [(.double (FP.i2d i4)), (.double (FP.ddiv (FP.i2d a3) (4652218415073722368 : UInt64))), (.int (1 : Int32)), (.ref b2)])) (fun X t q => XS.i2dS X.here C.hx rfl (hb C.hby at_79) rfl rfl q) ?_
    refine Wk.callV C (x := (⟨"com/example/torino/torino/AbsorbingChain", "addExit", "(IDD)V"⟩ : MethodName)) (z := (⟨"com/example/torino/torino/AbsorbingChain", "addExit", "(IDD)V"⟩ : MethodName)) (K := "com/example/torino/torino/AbsorbingChain") (hw _ (List.mem_of_getElem? (i := 40) rfl)) (hw _ (List.mem_of_getElem? (i := 41) rfl)) (hw _ (List.mem_of_getElem? (i := 43) rfl)) (hw _ (List.mem_of_getElem? (i := 42) rfl)) (hw _ (List.mem_of_getElem? (i := 2) rfl)) (hw _ (List.mem_of_getElem? (i := 44) rfl)) (by decide) (fun s' hZ' => notFace_of_selects (args := #[]) (mvT hZ' (hw _ (List.mem_of_getElem? (i := 43) rfl)))) F239 (own_3_2 l Z a0 hw n0 h235 sz279 b2 n22_b36 n22_b79 n22_b127 n22_b180 n22_b238 n22_b301 n22_b369 n22_b442 n22_b520 n22_b603 n22_b882 n22_b691 n22_b985 n22_b784 n22_b1093 (FP.ddiv (FP.i2d a3) (4652218415073722368 : UInt64)) (FP.i2d i4) (FP.dadd (0 : UInt64) (FP.ddiv (FP.i2d a1) (4652218415073722368 : UInt64))) (FP.dadd (0 : UInt64) (FP.dmul (FP.ddiv (FP.i2d a1) (4652218415073722368 : UInt64)) (FP.i2d i1))) F239 F240 F241 F242 F243 F244 F245 F246 F247 F248 F249 F250 F251 F252 F253 F254 F255 F256 F257 F258 F259 F260 F261 F262 F263 F264 F265 F266 F267 F268 F269 F270 F271 F272 F273 F274 F275 F276 F277 F278 F237 F238 ne186 ne189 ne192 ne195 ne198 ne201 ne204 ne207 ne210 ne213 ne216 ne219 ne222 ne225 ne228 ne81 ne82 ne83 ne84 ne85 ne86 ne87 ne88 ne89 ne90 ne91 ne92 ne93 ne94 ne95 ne96 ne97 ne98 ne99 ne100 ne101 ne102 ne103 ne104 ne105 ne106 ne107 ne108 ne109 ne110 ne111 ne112 ne113 ne114 ne115 ne116 ne117 ne118 ne119 ne120 ne121 ne122 ne123 ne124 ne125 ne126 ne127 ne128 ne129 ne130 ne131 ne132 ne133 ne134 ne135 ne136 ne137 ne138 ne139 ne140 ne141 ne142 ne143 ne144 ne145 ne146 ne147 ne148 ne149 ne150 ne151 ne152 ne153 ne154 ne155 ne156 ne157 ne158 ne159 ne160 ne161 ne162 ne163 ne164 ne165 ne166 ne167 ne168 ne169 ne170 ne171 ne172 ne173 ne174 ne175 ne176 ne177 ne178 ne179 ne180 ne181 ne182 ne183 ne184 ne185 ge7 ge187 ge190 ge193 ge196 ge199 ge202 ge205 ge208 ge211 ge214 ge217 ge220 ge223 ge226 ge229 (DSc.nn (DSc.add DSc.zero (DSc.div (Jvm.FP.Core.i2d_int a3) (nab (by omega) (by omega))) (nab (by omega) (by omega)))) (DSc.nn (DSc.mul (DSc.div (Jvm.FP.Core.i2d_int a3) (nab (by omega) (by omega))) (Jvm.FP.Core.i2d_int i4) (nab (by omega) (by omega)))) (DSc.nn (DSc.add DSc.zero (DSc.mul (DSc.div (Jvm.FP.Core.i2d_int a3) (nab (by omega) (by omega))) (Jvm.FP.Core.i2d_int i4) (nab (by omega) (by omega))) (nab (by omega) (by omega))))) (w := 0) (by decide) (by decide) pd_1 rfl (rest := []) rfl rfl (Nat.le_of_eq rfl) (by decide) (by decide) at_80 ?_
    rintro _ h282 ⟨rfl, K283, F284, F285⟩
    show Wk _ p l e _ s m _ below meth c n0 _ h282 16 42 (mkF m 83 #[.val (.int i0), .val (.int i1), .val (.int i2), .val (.int i3), .val (.int i4), .val (.int i5), .val (.int (0 : Int32)), .val (.int (1 : Int32)), .val (.int a1), .val (.int a2), .val (.int a3), .val (.ref b2), .unset, .unset, .unset, .unset, .unset] [])
    have F286 : Exa Z h282 b2 "com/example/torino/torino/AbsorbingChain" := F239.keep K283
    have F287 : Fld Z h282 b2 "com/example/torino/torino/AbsorbingChain" "markedRow" "I" (.int (-1 : Int32)) := F240.keep K283 (nmS ne186 (nmS ne189 nm0))
    have F288 : Fld Z h282 b2 "com/example/torino/torino/AbsorbingChain" "size" "I" (.int (2 : Int32)) := F241.keep K283 (nmS ne186 (nmS ne189 nm0))
    have F289 : Exa Z h282 n22_b36 "[D" := F242.keep K283
    have F290 : Fld Z h282 b2 "com/example/torino/torino/AbsorbingChain" "exitProbabilities" "[D" (.ref n22_b36) := F243.keep K283 (nmS ne186 (nmS ne189 nm0))
    have F291 : Exa Z h282 n22_b79 "[D" := F244.keep K283
    have F292 : Fld Z h282 b2 "com/example/torino/torino/AbsorbingChain" "exitValues" "[D" (.ref n22_b79) := F245.keep K283 (nmS ne186 (nmS ne189 nm0))
    have F293 : Exa Z h282 n22_b127 "[[I" := F246.keep K283
    have F294 : Fld Z h282 b2 "com/example/torino/torino/AbsorbingChain" "nexts" "[[I" (.ref n22_b127) := F247.keep K283 (nmS ne186 (nmS ne189 nm0))
    have F295 : Exa Z h282 n22_b180 "[[D" := F248.keep K283
    have F296 : Fld Z h282 b2 "com/example/torino/torino/AbsorbingChain" "probabilities" "[[D" (.ref n22_b180) := F249.keep K283 (nmS ne186 (nmS ne189 nm0))
    have F297 : Exa Z h282 n22_b238 "[I" := F250.keep K283
    have F298 : Fa Z h282 n22_b238 .int 2 (fun _ => (.int (0 : Int32))) := F251.keep K283 (nmS (Ne.symm ne84) (nmS (Ne.symm ne97) nm0))
    have F299 : Fld Z h282 b2 "com/example/torino/torino/AbsorbingChain" "lengths" "[I" (.ref n22_b238) := F252.keep K283 (nmS ne186 (nmS ne189 nm0))
    have F300 : Exa Z h282 n22_b301 "[[I" := F253.keep K283
    have F301 : Fld Z h282 b2 "com/example/torino/torino/AbsorbingChain" "predecessors" "[[I" (.ref n22_b301) := F254.keep K283 (nmS ne186 (nmS ne189 nm0))
    have F302 : Exa Z h282 n22_b369 "[I" := F255.keep K283
    have F303 : Fa Z h282 n22_b369 .int 2 (fun _ => (.int (0 : Int32))) := F256.keep K283 (nmS (Ne.symm ne86) (nmS (Ne.symm ne99) nm0))
    have F304 : Fld Z h282 b2 "com/example/torino/torino/AbsorbingChain" "predecessorCounts" "[I" (.ref n22_b369) := F257.keep K283 (nmS ne186 (nmS ne189 nm0))
    have F305 : Exa Z h282 n22_b442 "[I" := F258.keep K283
    have F306 : Fa Z h282 n22_b442 .int 2 (fun _ => (.int (0 : Int32))) := F259.keep K283 (nmS (Ne.symm ne87) (nmS (Ne.symm ne100) nm0))
    have F307 : Fld Z h282 b2 "com/example/torino/torino/AbsorbingChain" "entryMarks" "[I" (.ref n22_b442) := F260.keep K283 (nmS ne186 (nmS ne189 nm0))
    have F308 : Exa Z h282 n22_b520 "[I" := F261.keep K283
    have F309 : Fa Z h282 n22_b520 .int 2 (fun _ => (.int (0 : Int32))) := F262.keep K283 (nmS (Ne.symm ne88) (nmS (Ne.symm ne101) nm0))
    have F310 : Fld Z h282 b2 "com/example/torino/torino/AbsorbingChain" "entries" "[I" (.ref n22_b520) := F263.keep K283 (nmS ne186 (nmS ne189 nm0))
    have F311 : Exa Z h282 n22_b603 "[I" := F264.keep K283
    have F312 : Fa Z h282 n22_b603 .int 2 (fun _ => (.int (0 : Int32))) := F265.keep K283 (nmS (Ne.symm ne89) (nmS (Ne.symm ne102) nm0))
    have F313 : Exa Z h282 n22_b691 "[D" := F266.keep K283
    have F314 : Fa Z h282 n22_b691 .double 2 (fun _ => (.double (0 : UInt64))) := F267.keep K283 (nmS (Ne.symm ne91) (nmS (Ne.symm ne104) nm0))
    have F315 : Exa Z h282 n22_b784 "[I" := F268.keep K283
    have F316 : Fa Z h282 n22_b784 .int 2 (fun _ => (.int (0 : Int32))) := F269.keep K283 (nmS (Ne.symm ne93) (nmS (Ne.symm ne106) nm0))
    have F317 : Exa Z h282 n22_b882 "[I" := F270.keep K283
    have F318 : Fa Z h282 n22_b882 .int 2 (fun _ => (.int (0 : Int32))) := F271.keep K283 (nmS (Ne.symm ne90) (nmS (Ne.symm ne103) nm0))
    have F319 : FaA Z h282 n22_b127 .int "[I" 2 (up (up (fun _ => .null) 0 (.ref n22_b603)) 1 (.ref n22_b882)) := F272.keep K283 (nmS (Ne.symm ne82) (nmS (Ne.symm ne95) nm0))
    have F320 : Exa Z h282 n22_b985 "[D" := F273.keep K283
    have F321 : Fa Z h282 n22_b985 .double 2 (fun _ => (.double (0 : UInt64))) := F274.keep K283 (nmS (Ne.symm ne92) (nmS (Ne.symm ne105) nm0))
    have F322 : FaA Z h282 n22_b180 .double "[D" 2 (up (up (fun _ => .null) 0 (.ref n22_b691)) 1 (.ref n22_b985)) := F275.keep K283 (nmS (Ne.symm ne83) (nmS (Ne.symm ne96) nm0))
    have F323 : Exa Z h282 n22_b1093 "[I" := F276.keep K283
    have F324 : Fa Z h282 n22_b1093 .int 2 (fun _ => (.int (0 : Int32))) := F277.keep K283 (nmS (Ne.symm ne94) (nmS (Ne.symm ne107) nm0))
    have F325 : FaA Z h282 n22_b301 .int "[I" 2 (up (up (fun _ => .null) 0 (.ref n22_b784)) 1 (.ref n22_b1093)) := F278.keep K283 (nmS (Ne.symm ne85) (nmS (Ne.symm ne98) nm0))
    have sz326 : n0 ≤ h282.size := Nat.le_trans sz279 K283.1
    have sy327 : h0.size ≤ h282.size := Nat.le_trans sy280 K283.1
    refine Wk.st (g' := (mkF m 85 #[.val (.int i0), .val (.int i1), .val (.int i2), .val (.int i3), .val (.int i4), .val (.int i5), .val (.int (0 : Int32)), .val (.int (1 : Int32)), .val (.int a1), .val (.int a2), .val (.int a3), .val (.ref b2), .unset, .unset, .unset, .unset, .unset] [(.ref b2)])) (fun X t q => XS.aload X.here C.hx rfl (hb C.hby at_83) rfl rfl q) ?_
    refine Wk.st (g' := (mkF m 87 #[.val (.int i0), .val (.int i1), .val (.int i2), .val (.int i3), .val (.int i4), .val (.int i5), .val (.int (0 : Int32)), .val (.int (1 : Int32)), .val (.int a1), .val (.int a2), .val (.int a3), .val (.ref b2), .unset, .unset, .unset, .unset, .unset] [(.int (0 : Int32)), (.ref b2)])) (fun X t q => XS.iload X.here C.hx rfl (hb C.hby at_85) rfl q) ?_
    refine Wk.st (g' := (mkF m 89 #[.val (.int i0), .val (.int i1), .val (.int i2), .val (.int i3), .val (.int i4), .val (.int i5), .val (.int (0 : Int32)), .val (.int (1 : Int32)), .val (.int a1), .val (.int a2), .val (.int a3), .val (.ref b2), .unset, .unset, .unset, .unset, .unset] [(.int a2), (.int (0 : Int32)), (.ref b2)])) (fun X t q => XS.iload X.here C.hx rfl (hb C.hby at_87) rfl q) ?_
    refine Wk.st (g' := (mkF m 90 #[.val (.int i0), .val (.int i1), .val (.int i2), .val (.int i3), .val (.int i4), .val (.int i5), .val (.int (0 : Int32)), .val (.int (1 : Int32)), .val (.int a1), .val (.int a2), .val (.int a3), .val (.ref b2), .unset, .unset, .unset, .unset, .unset] [(.double (FP.i2d a2)), (.int (0 : Int32)), (.ref b2)])) (fun X t q => XS.i2dS X.here C.hx rfl (hb C.hby at_89) rfl rfl q) ?_
    refine Wk.ldc2D C (hw _ (List.mem_of_getElem? (i := 39) rfl)) at_90 ?_
    show Wk _ p l e _ s m _ below meth c n0 _ h282 16 42 (mkF m 93 #[.val (.int i0), .val (.int i1), .val (.int i2), .val (.int i3), .val (.int i4), .val (.int i5), .val (.int (0 : Int32)), .val (.int (1 : Int32)), .val (.int a1), .val (.int a2), .val (.int a3), .val (.ref b2), .unset, .unset, .unset, .unset, .unset] [(.double (4652218415073722368 : UInt64)), (.double (FP.i2d a2)), (.int (0 : Int32)), (.ref b2)])
    refine Wk.st (g' := (mkF m 94 #[.val (.int i0), .val (.int i1), .val (.int i2), .val (.int i3), .val (.int i4), .val (.int i5), .val (.int (0 : Int32)), .val (.int (1 : Int32)), .val (.int a1), .val (.int a2), .val (.int a3), .val (.ref b2), .unset, .unset, .unset, .unset, .unset] [(.double (FP.ddiv (FP.i2d a2) (4652218415073722368 : UInt64))), (.int (0 : Int32)), (.ref b2)])) (fun X t q => XS.ddivS X.here C.hx rfl (hb C.hby at_93) rfl (DSc.nn (DSc.div (Jvm.FP.Core.i2d_int a2) (nab (by omega) (by omega)))) rfl q) ?_
    refine Wk.st (g' := (mkF m 95 #[.val (.int i0), .val (.int i1), .val (.int i2), .val (.int i3), .val (.int i4), .val (.int i5), .val (.int (0 : Int32)), .val (.int (1 : Int32)), .val (.int a1), .val (.int a2), .val (.int a3), .val (.ref b2), .unset, .unset, .unset, .unset, .unset] [(.int i3), (.double (FP.ddiv (FP.i2d a2) (4652218415073722368 : UInt64))), (.int (0 : Int32)), (.ref b2)])) (fun X t q => XS.iloadN X.here C.hx rfl (hb C.hby at_94) rfl q) ?_
    refine Wk.st (g' := (mkF m 96 #[.val (.int i0), .val (.int i1), .val (.int i2), .val (.int i3), .val (.int i4), .val (.int i5), .val (.int (0 : Int32)), .val (.int (1 : Int32)), .val (.int a1), .val (.int a2), .val (.int a3), .val (.ref b2), .unset, .unset, .unset, .unset, .unset] [(.double (FP.i2d i3)), (.double (FP.ddiv (FP.i2d a2) (4652218415073722368 : UInt64))), (.int (0 : Int32)), (.ref b2)])) (fun X t q => XS.i2dS X.here C.hx rfl (hb C.hby at_95) rfl rfl q) ?_
    refine Wk.callV C (x := (⟨"com/example/torino/torino/AbsorbingChain", "addExit", "(IDD)V"⟩ : MethodName)) (z := (⟨"com/example/torino/torino/AbsorbingChain", "addExit", "(IDD)V"⟩ : MethodName)) (K := "com/example/torino/torino/AbsorbingChain") (hw _ (List.mem_of_getElem? (i := 40) rfl)) (hw _ (List.mem_of_getElem? (i := 41) rfl)) (hw _ (List.mem_of_getElem? (i := 43) rfl)) (hw _ (List.mem_of_getElem? (i := 42) rfl)) (hw _ (List.mem_of_getElem? (i := 2) rfl)) (hw _ (List.mem_of_getElem? (i := 44) rfl)) (by decide) (fun s' hZ' => notFace_of_selects (args := #[]) (mvT hZ' (hw _ (List.mem_of_getElem? (i := 43) rfl)))) F286 (own_3_3 l Z a0 hw n0 h282 sz326 b2 n22_b36 n22_b79 n22_b127 n22_b180 n22_b238 n22_b301 n22_b369 n22_b442 n22_b520 n22_b603 n22_b882 n22_b691 n22_b985 n22_b784 n22_b1093 (FP.ddiv (FP.i2d a2) (4652218415073722368 : UInt64)) (FP.i2d i3) (FP.dadd (0 : UInt64) (FP.ddiv (FP.i2d a1) (4652218415073722368 : UInt64))) (FP.dadd (0 : UInt64) (FP.ddiv (FP.i2d a3) (4652218415073722368 : UInt64))) (FP.dadd (0 : UInt64) (FP.dmul (FP.ddiv (FP.i2d a1) (4652218415073722368 : UInt64)) (FP.i2d i1))) (FP.dadd (0 : UInt64) (FP.dmul (FP.ddiv (FP.i2d a3) (4652218415073722368 : UInt64)) (FP.i2d i4))) F286 F287 F288 F289 F290 F291 F292 F293 F294 F295 F296 F297 F298 F299 F300 F301 F302 F303 F304 F305 F306 F307 F308 F309 F310 F311 F312 F313 F314 F315 F316 F317 F318 F319 F320 F321 F322 F323 F324 F325 F284 F285 ne186 ne189 ne192 ne195 ne198 ne201 ne204 ne207 ne210 ne213 ne216 ne219 ne222 ne225 ne228 ne81 ne82 ne83 ne84 ne85 ne86 ne87 ne88 ne89 ne90 ne91 ne92 ne93 ne94 ne95 ne96 ne97 ne98 ne99 ne100 ne101 ne102 ne103 ne104 ne105 ne106 ne107 ne108 ne109 ne110 ne111 ne112 ne113 ne114 ne115 ne116 ne117 ne118 ne119 ne120 ne121 ne122 ne123 ne124 ne125 ne126 ne127 ne128 ne129 ne130 ne131 ne132 ne133 ne134 ne135 ne136 ne137 ne138 ne139 ne140 ne141 ne142 ne143 ne144 ne145 ne146 ne147 ne148 ne149 ne150 ne151 ne152 ne153 ne154 ne155 ne156 ne157 ne158 ne159 ne160 ne161 ne162 ne163 ne164 ne165 ne166 ne167 ne168 ne169 ne170 ne171 ne172 ne173 ne174 ne175 ne176 ne177 ne178 ne179 ne180 ne181 ne182 ne183 ne184 ne185 ge7 ge187 ge190 ge193 ge196 ge199 ge202 ge205 ge208 ge211 ge214 ge217 ge220 ge223 ge226 ge229 (DSc.nn (DSc.add (DSc.add DSc.zero (DSc.div (Jvm.FP.Core.i2d_int a1) (nab (by omega) (by omega))) (nab (by omega) (by omega))) (DSc.div (Jvm.FP.Core.i2d_int a2) (nab (by omega) (by omega))) (nab (by omega) (by omega)))) (DSc.nn (DSc.mul (DSc.div (Jvm.FP.Core.i2d_int a2) (nab (by omega) (by omega))) (Jvm.FP.Core.i2d_int i3) (nab (by omega) (by omega)))) (DSc.nn (DSc.add (DSc.add DSc.zero (DSc.mul (DSc.div (Jvm.FP.Core.i2d_int a1) (nab (by omega) (by omega))) (Jvm.FP.Core.i2d_int i1) (nab (by omega) (by omega))) (nab (by omega) (by omega))) (DSc.mul (DSc.div (Jvm.FP.Core.i2d_int a2) (nab (by omega) (by omega))) (Jvm.FP.Core.i2d_int i3) (nab (by omega) (by omega))) (nab (by omega) (by omega))))) (w := 0) (by decide) (by decide) pd_1 rfl (rest := []) rfl rfl (Nat.le_of_eq rfl) (by decide) (by decide) at_96 ?_
    rintro _ h329 ⟨rfl, K330, F331, F332⟩
    show Wk _ p l e _ s m _ below meth c n0 _ h329 16 42 (mkF m 99 #[.val (.int i0), .val (.int i1), .val (.int i2), .val (.int i3), .val (.int i4), .val (.int i5), .val (.int (0 : Int32)), .val (.int (1 : Int32)), .val (.int a1), .val (.int a2), .val (.int a3), .val (.ref b2), .unset, .unset, .unset, .unset, .unset] [])
    have F333 : Exa Z h329 b2 "com/example/torino/torino/AbsorbingChain" := F286.keep K330
    have F334 : Fld Z h329 b2 "com/example/torino/torino/AbsorbingChain" "markedRow" "I" (.int (-1 : Int32)) := F287.keep K330 (nmS ne186 (nmS ne189 nm0))
    have F335 : Fld Z h329 b2 "com/example/torino/torino/AbsorbingChain" "size" "I" (.int (2 : Int32)) := F288.keep K330 (nmS ne186 (nmS ne189 nm0))
    have F336 : Exa Z h329 n22_b36 "[D" := F289.keep K330
    have F337 : Fld Z h329 b2 "com/example/torino/torino/AbsorbingChain" "exitProbabilities" "[D" (.ref n22_b36) := F290.keep K330 (nmS ne186 (nmS ne189 nm0))
    have F338 : Exa Z h329 n22_b79 "[D" := F291.keep K330
    have F339 : Fld Z h329 b2 "com/example/torino/torino/AbsorbingChain" "exitValues" "[D" (.ref n22_b79) := F292.keep K330 (nmS ne186 (nmS ne189 nm0))
    have F340 : Exa Z h329 n22_b127 "[[I" := F293.keep K330
    have F341 : Fld Z h329 b2 "com/example/torino/torino/AbsorbingChain" "nexts" "[[I" (.ref n22_b127) := F294.keep K330 (nmS ne186 (nmS ne189 nm0))
    have F342 : Exa Z h329 n22_b180 "[[D" := F295.keep K330
    have F343 : Fld Z h329 b2 "com/example/torino/torino/AbsorbingChain" "probabilities" "[[D" (.ref n22_b180) := F296.keep K330 (nmS ne186 (nmS ne189 nm0))
    have F344 : Exa Z h329 n22_b238 "[I" := F297.keep K330
    have F345 : Fa Z h329 n22_b238 .int 2 (fun _ => (.int (0 : Int32))) := F298.keep K330 (nmS (Ne.symm ne84) (nmS (Ne.symm ne97) nm0))
    have F346 : Fld Z h329 b2 "com/example/torino/torino/AbsorbingChain" "lengths" "[I" (.ref n22_b238) := F299.keep K330 (nmS ne186 (nmS ne189 nm0))
    have F347 : Exa Z h329 n22_b301 "[[I" := F300.keep K330
    have F348 : Fld Z h329 b2 "com/example/torino/torino/AbsorbingChain" "predecessors" "[[I" (.ref n22_b301) := F301.keep K330 (nmS ne186 (nmS ne189 nm0))
    have F349 : Exa Z h329 n22_b369 "[I" := F302.keep K330
    have F350 : Fa Z h329 n22_b369 .int 2 (fun _ => (.int (0 : Int32))) := F303.keep K330 (nmS (Ne.symm ne86) (nmS (Ne.symm ne99) nm0))
    have F351 : Fld Z h329 b2 "com/example/torino/torino/AbsorbingChain" "predecessorCounts" "[I" (.ref n22_b369) := F304.keep K330 (nmS ne186 (nmS ne189 nm0))
    have F352 : Exa Z h329 n22_b442 "[I" := F305.keep K330
    have F353 : Fa Z h329 n22_b442 .int 2 (fun _ => (.int (0 : Int32))) := F306.keep K330 (nmS (Ne.symm ne87) (nmS (Ne.symm ne100) nm0))
    have F354 : Fld Z h329 b2 "com/example/torino/torino/AbsorbingChain" "entryMarks" "[I" (.ref n22_b442) := F307.keep K330 (nmS ne186 (nmS ne189 nm0))
    have F355 : Exa Z h329 n22_b520 "[I" := F308.keep K330
    have F356 : Fa Z h329 n22_b520 .int 2 (fun _ => (.int (0 : Int32))) := F309.keep K330 (nmS (Ne.symm ne88) (nmS (Ne.symm ne101) nm0))
    have F357 : Fld Z h329 b2 "com/example/torino/torino/AbsorbingChain" "entries" "[I" (.ref n22_b520) := F310.keep K330 (nmS ne186 (nmS ne189 nm0))
    have F358 : Exa Z h329 n22_b603 "[I" := F311.keep K330
    have F359 : Fa Z h329 n22_b603 .int 2 (fun _ => (.int (0 : Int32))) := F312.keep K330 (nmS (Ne.symm ne89) (nmS (Ne.symm ne102) nm0))
    have F360 : Exa Z h329 n22_b691 "[D" := F313.keep K330
    have F361 : Fa Z h329 n22_b691 .double 2 (fun _ => (.double (0 : UInt64))) := F314.keep K330 (nmS (Ne.symm ne91) (nmS (Ne.symm ne104) nm0))
    have F362 : Exa Z h329 n22_b784 "[I" := F315.keep K330
    have F363 : Fa Z h329 n22_b784 .int 2 (fun _ => (.int (0 : Int32))) := F316.keep K330 (nmS (Ne.symm ne93) (nmS (Ne.symm ne106) nm0))
    have F364 : Exa Z h329 n22_b882 "[I" := F317.keep K330
    have F365 : Fa Z h329 n22_b882 .int 2 (fun _ => (.int (0 : Int32))) := F318.keep K330 (nmS (Ne.symm ne90) (nmS (Ne.symm ne103) nm0))
    have F366 : FaA Z h329 n22_b127 .int "[I" 2 (up (up (fun _ => .null) 0 (.ref n22_b603)) 1 (.ref n22_b882)) := F319.keep K330 (nmS (Ne.symm ne82) (nmS (Ne.symm ne95) nm0))
    have F367 : Exa Z h329 n22_b985 "[D" := F320.keep K330
    have F368 : Fa Z h329 n22_b985 .double 2 (fun _ => (.double (0 : UInt64))) := F321.keep K330 (nmS (Ne.symm ne92) (nmS (Ne.symm ne105) nm0))
    have F369 : FaA Z h329 n22_b180 .double "[D" 2 (up (up (fun _ => .null) 0 (.ref n22_b691)) 1 (.ref n22_b985)) := F322.keep K330 (nmS (Ne.symm ne83) (nmS (Ne.symm ne96) nm0))
    have F370 : Exa Z h329 n22_b1093 "[I" := F323.keep K330
    have F371 : Fa Z h329 n22_b1093 .int 2 (fun _ => (.int (0 : Int32))) := F324.keep K330 (nmS (Ne.symm ne94) (nmS (Ne.symm ne107) nm0))
    have F372 : FaA Z h329 n22_b301 .int "[I" 2 (up (up (fun _ => .null) 0 (.ref n22_b784)) 1 (.ref n22_b1093)) := F325.keep K330 (nmS (Ne.symm ne85) (nmS (Ne.symm ne98) nm0))
    have sz373 : n0 ≤ h329.size := Nat.le_trans sz326 K330.1
    have sy374 : h0.size ≤ h329.size := Nat.le_trans sy327 K330.1
    refine Wk.st (g' := (mkF m 101 #[.val (.int i0), .val (.int i1), .val (.int i2), .val (.int i3), .val (.int i4), .val (.int i5), .val (.int (0 : Int32)), .val (.int (1 : Int32)), .val (.int a1), .val (.int a2), .val (.int a3), .val (.ref b2), .unset, .unset, .unset, .unset, .unset] [(.ref b2)])) (fun X t q => XS.aload X.here C.hx rfl (hb C.hby at_99) rfl rfl q) ?_
    refine Wk.ldc2J C (hw _ (List.mem_of_getElem? (i := 45) rfl)) at_101 ?_
    show Wk _ p l e _ s m _ below meth c n0 _ h329 16 42 (mkF m 104 #[.val (.int i0), .val (.int i1), .val (.int i2), .val (.int i3), .val (.int i4), .val (.int i5), .val (.int (0 : Int32)), .val (.int (1 : Int32)), .val (.int a1), .val (.int a2), .val (.int a3), .val (.ref b2), .unset, .unset, .unset, .unset, .unset] [(.long (1000 : Int64)), (.ref b2)])
    refine Wk.callV C (x := (⟨"com/example/torino/torino/AbsorbingChain", "solve", "(J)[D"⟩ : MethodName)) (z := (⟨"com/example/torino/torino/AbsorbingChain", "solve", "(J)[D"⟩ : MethodName)) (K := "com/example/torino/torino/AbsorbingChain") (hw _ (List.mem_of_getElem? (i := 46) rfl)) (hw _ (List.mem_of_getElem? (i := 47) rfl)) (hw _ (List.mem_of_getElem? (i := 49) rfl)) (hw _ (List.mem_of_getElem? (i := 48) rfl)) (hw _ (List.mem_of_getElem? (i := 2) rfl)) (hw _ (List.mem_of_getElem? (i := 50) rfl)) (by decide) (fun s' hZ' => notFace_of_selects (args := #[]) (mvT hZ' (hw _ (List.mem_of_getElem? (i := 49) rfl)))) F333 (own_4_4 l Z a0 hw n0 h329 sz373 b2 n22_b36 n22_b79 n22_b127 n22_b180 n22_b238 n22_b301 n22_b369 n22_b442 n22_b520 n22_b603 n22_b882 n22_b691 n22_b985 n22_b784 n22_b1093 (FP.dadd (FP.dadd (0 : UInt64) (FP.ddiv (FP.i2d a1) (4652218415073722368 : UInt64))) (FP.ddiv (FP.i2d a2) (4652218415073722368 : UInt64))) (FP.dadd (0 : UInt64) (FP.ddiv (FP.i2d a3) (4652218415073722368 : UInt64))) (FP.dadd (FP.dadd (0 : UInt64) (FP.dmul (FP.ddiv (FP.i2d a1) (4652218415073722368 : UInt64)) (FP.i2d i1))) (FP.dmul (FP.ddiv (FP.i2d a2) (4652218415073722368 : UInt64)) (FP.i2d i3))) (FP.dadd (0 : UInt64) (FP.dmul (FP.ddiv (FP.i2d a3) (4652218415073722368 : UInt64)) (FP.i2d i4))) F333 F334 F335 F336 F337 F338 F339 F340 F341 F342 F343 F344 F345 F346 F347 F348 F349 F350 F351 F352 F353 F354 F355 F356 F357 F358 F359 F360 F361 F362 F363 F364 F365 F366 F367 F368 F369 F370 F371 F372 F331 F332 ne186 ne189 ne192 ne195 ne198 ne201 ne204 ne207 ne210 ne213 ne216 ne219 ne222 ne225 ne228 ne81 ne82 ne83 ne84 ne85 ne86 ne87 ne88 ne89 ne90 ne91 ne92 ne93 ne94 ne95 ne96 ne97 ne98 ne99 ne100 ne101 ne102 ne103 ne104 ne105 ne106 ne107 ne108 ne109 ne110 ne111 ne112 ne113 ne114 ne115 ne116 ne117 ne118 ne119 ne120 ne121 ne122 ne123 ne124 ne125 ne126 ne127 ne128 ne129 ne130 ne131 ne132 ne133 ne134 ne135 ne136 ne137 ne138 ne139 ne140 ne141 ne142 ne143 ne144 ne145 ne146 ne147 ne148 ne149 ne150 ne151 ne152 ne153 ne154 ne155 ne156 ne157 ne158 ne159 ne160 ne161 ne162 ne163 ne164 ne165 ne166 ne167 ne168 ne169 ne170 ne171 ne172 ne173 ne174 ne175 ne176 ne177 ne178 ne179 ne180 ne181 ne182 ne183 ne184 ne185 ge7 ge187 ge190 ge193 ge196 ge199 ge202 ge205 ge208 ge211 ge214 ge217 ge220 ge223 ge226 ge229 (DQ.nn (DQ.sc (DSc.add DSc.zero (DSc.mul (DSc.div (Jvm.FP.Core.i2d_int a3) (nab (by omega) (by omega))) (Jvm.FP.Core.i2d_int i4) (nab (by omega) (by omega))) (nab (by omega) (by omega))) (DSc.add DSc.zero (DSc.div (Jvm.FP.Core.i2d_int a3) (nab (by omega) (by omega))) (nab (by omega) (by omega))) (by omega))) (DQ.nn (DQ.sc (DSc.add (DSc.add DSc.zero (DSc.mul (DSc.div (Jvm.FP.Core.i2d_int a1) (nab (by omega) (by omega))) (Jvm.FP.Core.i2d_int i1) (nab (by omega) (by omega))) (nab (by omega) (by omega))) (DSc.mul (DSc.div (Jvm.FP.Core.i2d_int a2) (nab (by omega) (by omega))) (Jvm.FP.Core.i2d_int i3) (nab (by omega) (by omega))) (nab (by omega) (by omega))) (DSc.add (DSc.add DSc.zero (DSc.div (Jvm.FP.Core.i2d_int a1) (nab (by omega) (by omega))) (nab (by omega) (by omega))) (DSc.div (Jvm.FP.Core.i2d_int a2) (nab (by omega) (by omega))) (nab (by omega) (by omega))) (by omega)))) (w := 0) (by decide) (by decide) pd_2 rfl (rest := []) rfl rfl (Nat.le_of_eq rfl) (by decide) (by decide) at_104 ?_
    rintro _ h376 ⟨n375_b169, rfl, K377, gn380, F378, F379⟩
    show Wk _ p l e _ s m _ below meth c n0 _ h376 18 46 (mkF m 107 #[.val (.int i0), .val (.int i1), .val (.int i2), .val (.int i3), .val (.int i4), .val (.int i5), .val (.int (0 : Int32)), .val (.int (1 : Int32)), .val (.int a1), .val (.int a2), .val (.int a3), .val (.ref b2), .unset, .unset, .unset, .unset, .unset] [(.ref n375_b169)])
    have ne381 : b2 ≠ n375_b169 := Nat.ne_of_lt (Nat.lt_of_lt_of_le F333.lt gn380)
    have ne382 : n22_b36 ≠ n375_b169 := Nat.ne_of_lt (Nat.lt_of_lt_of_le F336.lt gn380)
    have ne383 : n22_b79 ≠ n375_b169 := Nat.ne_of_lt (Nat.lt_of_lt_of_le F338.lt gn380)
    have ne384 : n22_b127 ≠ n375_b169 := Nat.ne_of_lt (Nat.lt_of_lt_of_le F340.lt gn380)
    have ne385 : n22_b180 ≠ n375_b169 := Nat.ne_of_lt (Nat.lt_of_lt_of_le F342.lt gn380)
    have ne386 : n22_b238 ≠ n375_b169 := Nat.ne_of_lt (Nat.lt_of_lt_of_le F344.lt gn380)
    have ne387 : n22_b301 ≠ n375_b169 := Nat.ne_of_lt (Nat.lt_of_lt_of_le F347.lt gn380)
    have ne388 : n22_b369 ≠ n375_b169 := Nat.ne_of_lt (Nat.lt_of_lt_of_le F349.lt gn380)
    have ne389 : n22_b442 ≠ n375_b169 := Nat.ne_of_lt (Nat.lt_of_lt_of_le F352.lt gn380)
    have ne390 : n22_b520 ≠ n375_b169 := Nat.ne_of_lt (Nat.lt_of_lt_of_le F355.lt gn380)
    have ne391 : n22_b603 ≠ n375_b169 := Nat.ne_of_lt (Nat.lt_of_lt_of_le F358.lt gn380)
    have ne392 : n22_b691 ≠ n375_b169 := Nat.ne_of_lt (Nat.lt_of_lt_of_le F360.lt gn380)
    have ne393 : n22_b784 ≠ n375_b169 := Nat.ne_of_lt (Nat.lt_of_lt_of_le F362.lt gn380)
    have ne394 : n22_b882 ≠ n375_b169 := Nat.ne_of_lt (Nat.lt_of_lt_of_le F364.lt gn380)
    have ne395 : n22_b985 ≠ n375_b169 := Nat.ne_of_lt (Nat.lt_of_lt_of_le F367.lt gn380)
    have ne396 : n22_b1093 ≠ n375_b169 := Nat.ne_of_lt (Nat.lt_of_lt_of_le F370.lt gn380)
    have ge397 : n0 ≤ n375_b169 := Nat.le_trans sz373 gn380
    have gz398 : h0.size ≤ n375_b169 := Nat.le_trans sy374 gn380
    have F399 : Exa Z h376 b2 "com/example/torino/torino/AbsorbingChain" := F333.keep K377
    have F400 : Fld Z h376 b2 "com/example/torino/torino/AbsorbingChain" "markedRow" "I" (.int (-1 : Int32)) := F334.keep K377 nm0
    have F401 : Fld Z h376 b2 "com/example/torino/torino/AbsorbingChain" "size" "I" (.int (2 : Int32)) := F335.keep K377 nm0
    have F402 : Exa Z h376 n22_b36 "[D" := F336.keep K377
    have F403 : Fld Z h376 b2 "com/example/torino/torino/AbsorbingChain" "exitProbabilities" "[D" (.ref n22_b36) := F337.keep K377 nm0
    have F404 : Exa Z h376 n22_b79 "[D" := F338.keep K377
    have F405 : Fld Z h376 b2 "com/example/torino/torino/AbsorbingChain" "exitValues" "[D" (.ref n22_b79) := F339.keep K377 nm0
    have F406 : Exa Z h376 n22_b127 "[[I" := F340.keep K377
    have F407 : Fld Z h376 b2 "com/example/torino/torino/AbsorbingChain" "nexts" "[[I" (.ref n22_b127) := F341.keep K377 nm0
    have F408 : Exa Z h376 n22_b180 "[[D" := F342.keep K377
    have F409 : Fld Z h376 b2 "com/example/torino/torino/AbsorbingChain" "probabilities" "[[D" (.ref n22_b180) := F343.keep K377 nm0
    have F410 : Exa Z h376 n22_b238 "[I" := F344.keep K377
    have F411 : Fa Z h376 n22_b238 .int 2 (fun _ => (.int (0 : Int32))) := F345.keep K377 nm0
    have F412 : Fld Z h376 b2 "com/example/torino/torino/AbsorbingChain" "lengths" "[I" (.ref n22_b238) := F346.keep K377 nm0
    have F413 : Exa Z h376 n22_b301 "[[I" := F347.keep K377
    have F414 : Fld Z h376 b2 "com/example/torino/torino/AbsorbingChain" "predecessors" "[[I" (.ref n22_b301) := F348.keep K377 nm0
    have F415 : Exa Z h376 n22_b369 "[I" := F349.keep K377
    have F416 : Fa Z h376 n22_b369 .int 2 (fun _ => (.int (0 : Int32))) := F350.keep K377 nm0
    have F417 : Fld Z h376 b2 "com/example/torino/torino/AbsorbingChain" "predecessorCounts" "[I" (.ref n22_b369) := F351.keep K377 nm0
    have F418 : Exa Z h376 n22_b442 "[I" := F352.keep K377
    have F419 : Fa Z h376 n22_b442 .int 2 (fun _ => (.int (0 : Int32))) := F353.keep K377 nm0
    have F420 : Fld Z h376 b2 "com/example/torino/torino/AbsorbingChain" "entryMarks" "[I" (.ref n22_b442) := F354.keep K377 nm0
    have F421 : Exa Z h376 n22_b520 "[I" := F355.keep K377
    have F422 : Fa Z h376 n22_b520 .int 2 (fun _ => (.int (0 : Int32))) := F356.keep K377 nm0
    have F423 : Fld Z h376 b2 "com/example/torino/torino/AbsorbingChain" "entries" "[I" (.ref n22_b520) := F357.keep K377 nm0
    have F424 : Exa Z h376 n22_b603 "[I" := F358.keep K377
    have F425 : Fa Z h376 n22_b603 .int 2 (fun _ => (.int (0 : Int32))) := F359.keep K377 nm0
    have F426 : Exa Z h376 n22_b691 "[D" := F360.keep K377
    have F427 : Fa Z h376 n22_b691 .double 2 (fun _ => (.double (0 : UInt64))) := F361.keep K377 nm0
    have F428 : Exa Z h376 n22_b784 "[I" := F362.keep K377
    have F429 : Fa Z h376 n22_b784 .int 2 (fun _ => (.int (0 : Int32))) := F363.keep K377 nm0
    have F430 : Exa Z h376 n22_b882 "[I" := F364.keep K377
    have F431 : Fa Z h376 n22_b882 .int 2 (fun _ => (.int (0 : Int32))) := F365.keep K377 nm0
    have F432 : FaA Z h376 n22_b127 .int "[I" 2 (up (up (fun _ => .null) 0 (.ref n22_b603)) 1 (.ref n22_b882)) := F366.keep K377 nm0
    have F433 : Exa Z h376 n22_b985 "[D" := F367.keep K377
    have F434 : Fa Z h376 n22_b985 .double 2 (fun _ => (.double (0 : UInt64))) := F368.keep K377 nm0
    have F435 : FaA Z h376 n22_b180 .double "[D" 2 (up (up (fun _ => .null) 0 (.ref n22_b691)) 1 (.ref n22_b985)) := F369.keep K377 nm0
    have F436 : Exa Z h376 n22_b1093 "[I" := F370.keep K377
    have F437 : Fa Z h376 n22_b1093 .int 2 (fun _ => (.int (0 : Int32))) := F371.keep K377 nm0
    have F438 : FaA Z h376 n22_b301 .int "[I" 2 (up (up (fun _ => .null) 0 (.ref n22_b784)) 1 (.ref n22_b1093)) := F372.keep K377 nm0
    have F439 : Fa Z h376 n22_b36 .double 2 (up (up (fun _ => (.double (0 : UInt64))) 0 (.double (FP.dadd (FP.dadd (0 : UInt64) (FP.ddiv (FP.i2d a1) (4652218415073722368 : UInt64))) (FP.ddiv (FP.i2d a2) (4652218415073722368 : UInt64))))) 1 (.double (FP.dadd (0 : UInt64) (FP.ddiv (FP.i2d a3) (4652218415073722368 : UInt64))))) := F331.keep K377 nm0
    have F440 : Fa Z h376 n22_b79 .double 2 (up (up (fun _ => (.double (0 : UInt64))) 0 (.double (FP.dadd (FP.dadd (0 : UInt64) (FP.dmul (FP.ddiv (FP.i2d a1) (4652218415073722368 : UInt64)) (FP.i2d i1))) (FP.dmul (FP.ddiv (FP.i2d a2) (4652218415073722368 : UInt64)) (FP.i2d i3))))) 1 (.double (FP.dadd (0 : UInt64) (FP.dmul (FP.ddiv (FP.i2d a3) (4652218415073722368 : UInt64)) (FP.i2d i4))))) := F332.keep K377 nm0
    have sz441 : n0 ≤ h376.size := Nat.le_trans sz373 K377.1
    have sy442 : h0.size ≤ h376.size := Nat.le_trans sy374 K377.1
    refine Wk.st (g' := (mkF m 109 #[.val (.int i0), .val (.int i1), .val (.int i2), .val (.int i3), .val (.int i4), .val (.int i5), .val (.int (0 : Int32)), .val (.int (1 : Int32)), .val (.int a1), .val (.int a2), .val (.int a3), .val (.ref b2), .val (.ref n375_b169), .unset, .unset, .unset, .unset] [])) (fun X t q => XS.astore X.here C.hx rfl (hb C.hby at_107) rfl rfl (l' := #[.val (.int i0), .val (.int i1), .val (.int i2), .val (.int i3), .val (.int i4), .val (.int i5), .val (.int (0 : Int32)), .val (.int (1 : Int32)), .val (.int a1), .val (.int a2), .val (.int a3), .val (.ref b2), .val (.ref n375_b169), .unset, .unset, .unset, .unset]) rfl q) ?_
    refine Wk.st (g' := (mkF m 111 #[.val (.int i0), .val (.int i1), .val (.int i2), .val (.int i3), .val (.int i4), .val (.int i5), .val (.int (0 : Int32)), .val (.int (1 : Int32)), .val (.int a1), .val (.int a2), .val (.int a3), .val (.ref b2), .val (.ref n375_b169), .unset, .unset, .unset, .unset] [(.ref n375_b169)])) (fun X t q => XS.aload X.here C.hx rfl (hb C.hby at_109) rfl rfl q) ?_
    refine Wk.st (g' := (mkF m 114 #[.val (.int i0), .val (.int i1), .val (.int i2), .val (.int i3), .val (.int i4), .val (.int i5), .val (.int (0 : Int32)), .val (.int (1 : Int32)), .val (.int a1), .val (.int a2), .val (.int a3), .val (.ref b2), .val (.ref n375_b169), .unset, .unset, .unset, .unset] [])) (fun X t q => XS.ifnullNo X.here C.hx rfl (hb C.hby at_111) rfl q) ?_
    refine Wk.st (g' := (mkF m 116 #[.val (.int i0), .val (.int i1), .val (.int i2), .val (.int i3), .val (.int i4), .val (.int i5), .val (.int (0 : Int32)), .val (.int (1 : Int32)), .val (.int a1), .val (.int a2), .val (.int a3), .val (.ref b2), .val (.ref n375_b169), .unset, .unset, .unset, .unset] [(.ref n375_b169)])) (fun X t q => XS.aload X.here C.hx rfl (hb C.hby at_114) rfl rfl q) ?_
    refine Wk.fLen C F379 (z := (2 : Int32)) (by decide) at_116 ?_
    show Wk _ p l e _ s m _ below meth c n0 _ h376 18 46 (mkF m 117 #[.val (.int i0), .val (.int i1), .val (.int i2), .val (.int i3), .val (.int i4), .val (.int i5), .val (.int (0 : Int32)), .val (.int (1 : Int32)), .val (.int a1), .val (.int a2), .val (.int a3), .val (.ref b2), .val (.ref n375_b169), .unset, .unset, .unset, .unset] [(.int (2 : Int32))])
    refine Wk.st (g' := (mkF m 118 #[.val (.int i0), .val (.int i1), .val (.int i2), .val (.int i3), .val (.int i4), .val (.int i5), .val (.int (0 : Int32)), .val (.int (1 : Int32)), .val (.int a1), .val (.int a2), .val (.int a3), .val (.ref b2), .val (.ref n375_b169), .unset, .unset, .unset, .unset] [(.int (2 : Int32)), (.int (2 : Int32))])) (fun X t q => XS.iconst X.here C.hx rfl (hb C.hby at_117) q) ?_
    refine Wk.st (g' := (mkF m 123 #[.val (.int i0), .val (.int i1), .val (.int i2), .val (.int i3), .val (.int i4), .val (.int i5), .val (.int (0 : Int32)), .val (.int (1 : Int32)), .val (.int a1), .val (.int a2), .val (.int a3), .val (.ref b2), .val (.ref n375_b169), .unset, .unset, .unset, .unset] [])) (fun X t q => XS.icmpYes X.here C.hx rfl (pc0 := 118) (pc' := 123) rfl (hb C.hby at_118) rfl (XT.ii_eq_t (by decide)) (by decide) (by decide) q) ?_
    refine Wk.st (g' := (mkF m 125 #[.val (.int i0), .val (.int i1), .val (.int i2), .val (.int i3), .val (.int i4), .val (.int i5), .val (.int (0 : Int32)), .val (.int (1 : Int32)), .val (.int a1), .val (.int a2), .val (.int a3), .val (.ref b2), .val (.ref n375_b169), .unset, .unset, .unset, .unset] [(.int a1)])) (fun X t q => XS.iload X.here C.hx rfl (hb C.hby at_123) rfl q) ?_
    refine Wk.st (g' := (mkF m 126 #[.val (.int i0), .val (.int i1), .val (.int i2), .val (.int i3), .val (.int i4), .val (.int i5), .val (.int (0 : Int32)), .val (.int (1 : Int32)), .val (.int a1), .val (.int a2), .val (.int a3), .val (.ref b2), .val (.ref n375_b169), .unset, .unset, .unset, .unset] [(.long (a1.toInt64))])) (fun X t q => XS.i2l X.here C.hx rfl (hb C.hby at_125) rfl q) ?_
    refine Wk.st (g' := (mkF m 127 #[.val (.int i0), .val (.int i1), .val (.int i2), .val (.int i3), .val (.int i4), .val (.int i5), .val (.int (0 : Int32)), .val (.int (1 : Int32)), .val (.int a1), .val (.int a2), .val (.int a3), .val (.ref b2), .val (.ref n375_b169), .unset, .unset, .unset, .unset] [(.int i1), (.long (a1.toInt64))])) (fun X t q => XS.iloadN X.here C.hx rfl (hb C.hby at_126) rfl q) ?_
    refine Wk.st (g' := (mkF m 128 #[.val (.int i0), .val (.int i1), .val (.int i2), .val (.int i3), .val (.int i4), .val (.int i5), .val (.int (0 : Int32)), .val (.int (1 : Int32)), .val (.int a1), .val (.int a2), .val (.int a3), .val (.ref b2), .val (.ref n375_b169), .unset, .unset, .unset, .unset] [(.long (i1.toInt64)), (.long (a1.toInt64))])) (fun X t q => XS.i2l X.here C.hx rfl (hb C.hby at_127) rfl q) ?_
    refine Wk.st (g' := (mkF m 129 #[.val (.int i0), .val (.int i1), .val (.int i2), .val (.int i3), .val (.int i4), .val (.int i5), .val (.int (0 : Int32)), .val (.int (1 : Int32)), .val (.int a1), .val (.int a2), .val (.int a3), .val (.ref b2), .val (.ref n375_b169), .unset, .unset, .unset, .unset] [(.long ((a1.toInt64) * (i1.toInt64)))])) (fun X t q => XS.lmul X.here C.hx rfl (hb C.hby at_128) rfl q) ?_
    refine Wk.st (g' := (mkF m 131 #[.val (.int i0), .val (.int i1), .val (.int i2), .val (.int i3), .val (.int i4), .val (.int i5), .val (.int (0 : Int32)), .val (.int (1 : Int32)), .val (.int a1), .val (.int a2), .val (.int a3), .val (.ref b2), .val (.ref n375_b169), .unset, .unset, .unset, .unset] [(.int a2), (.long ((a1.toInt64) * (i1.toInt64)))])) (fun X t q => XS.iload X.here C.hx rfl (hb C.hby at_129) rfl q) ?_
    refine Wk.st (g' := (mkF m 132 #[.val (.int i0), .val (.int i1), .val (.int i2), .val (.int i3), .val (.int i4), .val (.int i5), .val (.int (0 : Int32)), .val (.int (1 : Int32)), .val (.int a1), .val (.int a2), .val (.int a3), .val (.ref b2), .val (.ref n375_b169), .unset, .unset, .unset, .unset] [(.long (a2.toInt64)), (.long ((a1.toInt64) * (i1.toInt64)))])) (fun X t q => XS.i2l X.here C.hx rfl (hb C.hby at_131) rfl q) ?_
    refine Wk.st (g' := (mkF m 133 #[.val (.int i0), .val (.int i1), .val (.int i2), .val (.int i3), .val (.int i4), .val (.int i5), .val (.int (0 : Int32)), .val (.int (1 : Int32)), .val (.int a1), .val (.int a2), .val (.int a3), .val (.ref b2), .val (.ref n375_b169), .unset, .unset, .unset, .unset] [(.int i3), (.long (a2.toInt64)), (.long ((a1.toInt64) * (i1.toInt64)))])) (fun X t q => XS.iloadN X.here C.hx rfl (hb C.hby at_132) rfl q) ?_
    refine Wk.st (g' := (mkF m 134 #[.val (.int i0), .val (.int i1), .val (.int i2), .val (.int i3), .val (.int i4), .val (.int i5), .val (.int (0 : Int32)), .val (.int (1 : Int32)), .val (.int a1), .val (.int a2), .val (.int a3), .val (.ref b2), .val (.ref n375_b169), .unset, .unset, .unset, .unset] [(.long (i3.toInt64)), (.long (a2.toInt64)), (.long ((a1.toInt64) * (i1.toInt64)))])) (fun X t q => XS.i2l X.here C.hx rfl (hb C.hby at_133) rfl q) ?_
    refine Wk.st (g' := (mkF m 135 #[.val (.int i0), .val (.int i1), .val (.int i2), .val (.int i3), .val (.int i4), .val (.int i5), .val (.int (0 : Int32)), .val (.int (1 : Int32)), .val (.int a1), .val (.int a2), .val (.int a3), .val (.ref b2), .val (.ref n375_b169), .unset, .unset, .unset, .unset] [(.long ((a2.toInt64) * (i3.toInt64))), (.long ((a1.toInt64) * (i1.toInt64)))])) (fun X t q => XS.lmul X.here C.hx rfl (hb C.hby at_134) rfl q) ?_
    refine Wk.st (g' := (mkF m 136 #[.val (.int i0), .val (.int i1), .val (.int i2), .val (.int i3), .val (.int i4), .val (.int i5), .val (.int (0 : Int32)), .val (.int (1 : Int32)), .val (.int a1), .val (.int a2), .val (.int a3), .val (.ref b2), .val (.ref n375_b169), .unset, .unset, .unset, .unset] [(.long (((a1.toInt64) * (i1.toInt64)) + ((a2.toInt64) * (i3.toInt64))))])) (fun X t q => XS.ladd X.here C.hx rfl (hb C.hby at_135) rfl q) ?_
    refine Wk.st (g' := (mkF m 138 #[.val (.int i0), .val (.int i1), .val (.int i2), .val (.int i3), .val (.int i4), .val (.int i5), .val (.int (0 : Int32)), .val (.int (1 : Int32)), .val (.int a1), .val (.int a2), .val (.int a3), .val (.ref b2), .val (.ref n375_b169), .val (.long (((a1.toInt64) * (i1.toInt64)) + ((a2.toInt64) * (i3.toInt64)))), .second, .unset, .unset] [])) (fun X t q => XS.lstore X.here C.hx rfl (hb C.hby at_136) rfl (l' := #[.val (.int i0), .val (.int i1), .val (.int i2), .val (.int i3), .val (.int i4), .val (.int i5), .val (.int (0 : Int32)), .val (.int (1 : Int32)), .val (.int a1), .val (.int a2), .val (.int a3), .val (.ref b2), .val (.ref n375_b169), .val (.long (((a1.toInt64) * (i1.toInt64)) + ((a2.toInt64) * (i3.toInt64)))), .second, .unset, .unset]) rfl q) ?_
    refine Wk.st (g' := (mkF m 140 #[.val (.int i0), .val (.int i1), .val (.int i2), .val (.int i3), .val (.int i4), .val (.int i5), .val (.int (0 : Int32)), .val (.int (1 : Int32)), .val (.int a1), .val (.int a2), .val (.int a3), .val (.ref b2), .val (.ref n375_b169), .val (.long (((a1.toInt64) * (i1.toInt64)) + ((a2.toInt64) * (i3.toInt64)))), .second, .unset, .unset] [(.long (((a1.toInt64) * (i1.toInt64)) + ((a2.toInt64) * (i3.toInt64))))])) (fun X t q => XS.lload X.here C.hx rfl (hb C.hby at_138) rfl q) ?_
    refine Wk.st (g' := (mkF m 141 #[.val (.int i0), .val (.int i1), .val (.int i2), .val (.int i3), .val (.int i4), .val (.int i5), .val (.int (0 : Int32)), .val (.int (1 : Int32)), .val (.int a1), .val (.int a2), .val (.int a3), .val (.ref b2), .val (.ref n375_b169), .val (.long (((a1.toInt64) * (i1.toInt64)) + ((a2.toInt64) * (i3.toInt64)))), .second, .unset, .unset] [(.double (FP.l2d (((a1.toInt64) * (i1.toInt64)) + ((a2.toInt64) * (i3.toInt64)))))])) (fun X t q => XS.l2dS X.here C.hx rfl (hb C.hby at_140) rfl rfl q) ?_
    refine Wk.st (g' := (mkF m 143 #[.val (.int i0), .val (.int i1), .val (.int i2), .val (.int i3), .val (.int i4), .val (.int i5), .val (.int (0 : Int32)), .val (.int (1 : Int32)), .val (.int a1), .val (.int a2), .val (.int a3), .val (.ref b2), .val (.ref n375_b169), .val (.long (((a1.toInt64) * (i1.toInt64)) + ((a2.toInt64) * (i3.toInt64)))), .second, .unset, .unset] [(.int a1), (.double (FP.l2d (((a1.toInt64) * (i1.toInt64)) + ((a2.toInt64) * (i3.toInt64)))))])) (fun X t q => XS.iload X.here C.hx rfl (hb C.hby at_141) rfl q) ?_
    refine Wk.st (g' := (mkF m 145 #[.val (.int i0), .val (.int i1), .val (.int i2), .val (.int i3), .val (.int i4), .val (.int i5), .val (.int (0 : Int32)), .val (.int (1 : Int32)), .val (.int a1), .val (.int a2), .val (.int a3), .val (.ref b2), .val (.ref n375_b169), .val (.long (((a1.toInt64) * (i1.toInt64)) + ((a2.toInt64) * (i3.toInt64)))), .second, .unset, .unset] [(.int a2), (.int a1), (.double (FP.l2d (((a1.toInt64) * (i1.toInt64)) + ((a2.toInt64) * (i3.toInt64)))))])) (fun X t q => XS.iload X.here C.hx rfl (hb C.hby at_143) rfl q) ?_
    refine Wk.st (g' := (mkF m 146 #[.val (.int i0), .val (.int i1), .val (.int i2), .val (.int i3), .val (.int i4), .val (.int i5), .val (.int (0 : Int32)), .val (.int (1 : Int32)), .val (.int a1), .val (.int a2), .val (.int a3), .val (.ref b2), .val (.ref n375_b169), .val (.long (((a1.toInt64) * (i1.toInt64)) + ((a2.toInt64) * (i3.toInt64)))), .second, .unset, .unset] [(.int (a1 + a2)), (.double (FP.l2d (((a1.toInt64) * (i1.toInt64)) + ((a2.toInt64) * (i3.toInt64)))))])) (fun X t q => XS.iadd X.here C.hx rfl (hb C.hby at_145) rfl q) ?_
    refine Wk.st (g' := (mkF m 147 #[.val (.int i0), .val (.int i1), .val (.int i2), .val (.int i3), .val (.int i4), .val (.int i5), .val (.int (0 : Int32)), .val (.int (1 : Int32)), .val (.int a1), .val (.int a2), .val (.int a3), .val (.ref b2), .val (.ref n375_b169), .val (.long (((a1.toInt64) * (i1.toInt64)) + ((a2.toInt64) * (i3.toInt64)))), .second, .unset, .unset] [(.double (FP.i2d (a1 + a2))), (.double (FP.l2d (((a1.toInt64) * (i1.toInt64)) + ((a2.toInt64) * (i3.toInt64)))))])) (fun X t q => XS.i2dS X.here C.hx rfl (hb C.hby at_146) rfl rfl q) ?_
    refine Wk.st (g' := (mkF m 148 #[.val (.int i0), .val (.int i1), .val (.int i2), .val (.int i3), .val (.int i4), .val (.int i5), .val (.int (0 : Int32)), .val (.int (1 : Int32)), .val (.int a1), .val (.int a2), .val (.int a3), .val (.ref b2), .val (.ref n375_b169), .val (.long (((a1.toInt64) * (i1.toInt64)) + ((a2.toInt64) * (i3.toInt64)))), .second, .unset, .unset] [(.double (FP.ddiv (FP.l2d (((a1.toInt64) * (i1.toInt64)) + ((a2.toInt64) * (i3.toInt64)))) (FP.i2d (a1 + a2))))])) (fun X t q => XS.ddivS X.here C.hx rfl (hb C.hby at_147) rfl (DQ.nn (DQ.whole (Jvm.FP.Core.l2d_int (a := (((a1.toInt64) * (i1.toInt64)) + ((a2.toInt64) * (i3.toInt64)))) (by rw [num_is ra1' ra2']; exact (nab (by omega) (by omega)))) (Jvm.FP.Core.i2d_int (a1 + a2)) (by rw [den_is ra1' ra2']; omega))) rfl q) ?_
    refine Wk.st (g' := (mkF m 150 #[.val (.int i0), .val (.int i1), .val (.int i2), .val (.int i3), .val (.int i4), .val (.int i5), .val (.int (0 : Int32)), .val (.int (1 : Int32)), .val (.int a1), .val (.int a2), .val (.int a3), .val (.ref b2), .val (.ref n375_b169), .val (.long (((a1.toInt64) * (i1.toInt64)) + ((a2.toInt64) * (i3.toInt64)))), .second, .val (.double (FP.ddiv (FP.l2d (((a1.toInt64) * (i1.toInt64)) + ((a2.toInt64) * (i3.toInt64)))) (FP.i2d (a1 + a2)))), .second] [])) (fun X t q => XS.dstore X.here C.hx rfl (hb C.hby at_148) rfl (l' := #[.val (.int i0), .val (.int i1), .val (.int i2), .val (.int i3), .val (.int i4), .val (.int i5), .val (.int (0 : Int32)), .val (.int (1 : Int32)), .val (.int a1), .val (.int a2), .val (.int a3), .val (.ref b2), .val (.ref n375_b169), .val (.long (((a1.toInt64) * (i1.toInt64)) + ((a2.toInt64) * (i3.toInt64)))), .second, .val (.double (FP.ddiv (FP.l2d (((a1.toInt64) * (i1.toInt64)) + ((a2.toInt64) * (i3.toInt64)))) (FP.i2d (a1 + a2)))), .second]) rfl q) ?_
    refine Wk.st (g' := (mkF m 152 #[.val (.int i0), .val (.int i1), .val (.int i2), .val (.int i3), .val (.int i4), .val (.int i5), .val (.int (0 : Int32)), .val (.int (1 : Int32)), .val (.int a1), .val (.int a2), .val (.int a3), .val (.ref b2), .val (.ref n375_b169), .val (.long (((a1.toInt64) * (i1.toInt64)) + ((a2.toInt64) * (i3.toInt64)))), .second, .val (.double (FP.ddiv (FP.l2d (((a1.toInt64) * (i1.toInt64)) + ((a2.toInt64) * (i3.toInt64)))) (FP.i2d (a1 + a2)))), .second] [(.ref n375_b169)])) (fun X t q => XS.aload X.here C.hx rfl (hb C.hby at_150) rfl rfl q) ?_
    refine Wk.st (g' := (mkF m 154 #[.val (.int i0), .val (.int i1), .val (.int i2), .val (.int i3), .val (.int i4), .val (.int i5), .val (.int (0 : Int32)), .val (.int (1 : Int32)), .val (.int a1), .val (.int a2), .val (.int a3), .val (.ref b2), .val (.ref n375_b169), .val (.long (((a1.toInt64) * (i1.toInt64)) + ((a2.toInt64) * (i3.toInt64)))), .second, .val (.double (FP.ddiv (FP.l2d (((a1.toInt64) * (i1.toInt64)) + ((a2.toInt64) * (i3.toInt64)))) (FP.i2d (a1 + a2)))), .second] [(.int (0 : Int32)), (.ref n375_b169)])) (fun X t q => XS.iload X.here C.hx rfl (hb C.hby at_152) rfl q) ?_
    refine Wk.fLdD C F379 (i := 0) (by decide) (by decide) (by decide) (v := (.double (FP.ddiv (FP.dadd (FP.dadd (0 : UInt64) (FP.dmul (FP.ddiv (FP.i2d a1) (4652218415073722368 : UInt64)) (FP.i2d i1))) (FP.dmul (FP.ddiv (FP.i2d a2) (4652218415073722368 : UInt64)) (FP.i2d i3))) (FP.dadd (FP.dadd (0 : UInt64) (FP.ddiv (FP.i2d a1) (4652218415073722368 : UInt64))) (FP.ddiv (FP.i2d a2) (4652218415073722368 : UInt64)))))) (by simp [up]) at_154 ?_
    show Wk _ p l e _ s m _ below meth c n0 _ h376 18 46 (mkF m 155 #[.val (.int i0), .val (.int i1), .val (.int i2), .val (.int i3), .val (.int i4), .val (.int i5), .val (.int (0 : Int32)), .val (.int (1 : Int32)), .val (.int a1), .val (.int a2), .val (.int a3), .val (.ref b2), .val (.ref n375_b169), .val (.long (((a1.toInt64) * (i1.toInt64)) + ((a2.toInt64) * (i3.toInt64)))), .second, .val (.double (FP.ddiv (FP.l2d (((a1.toInt64) * (i1.toInt64)) + ((a2.toInt64) * (i3.toInt64)))) (FP.i2d (a1 + a2)))), .second] [(.double (FP.ddiv (FP.dadd (FP.dadd (0 : UInt64) (FP.dmul (FP.ddiv (FP.i2d a1) (4652218415073722368 : UInt64)) (FP.i2d i1))) (FP.dmul (FP.ddiv (FP.i2d a2) (4652218415073722368 : UInt64)) (FP.i2d i3))) (FP.dadd (FP.dadd (0 : UInt64) (FP.ddiv (FP.i2d a1) (4652218415073722368 : UInt64))) (FP.ddiv (FP.i2d a2) (4652218415073722368 : UInt64)))))])
    refine Wk.st (g' := (mkF m 157 #[.val (.int i0), .val (.int i1), .val (.int i2), .val (.int i3), .val (.int i4), .val (.int i5), .val (.int (0 : Int32)), .val (.int (1 : Int32)), .val (.int a1), .val (.int a2), .val (.int a3), .val (.ref b2), .val (.ref n375_b169), .val (.long (((a1.toInt64) * (i1.toInt64)) + ((a2.toInt64) * (i3.toInt64)))), .second, .val (.double (FP.ddiv (FP.l2d (((a1.toInt64) * (i1.toInt64)) + ((a2.toInt64) * (i3.toInt64)))) (FP.i2d (a1 + a2)))), .second] [(.double (FP.ddiv (FP.l2d (((a1.toInt64) * (i1.toInt64)) + ((a2.toInt64) * (i3.toInt64)))) (FP.i2d (a1 + a2)))), (.double (FP.ddiv (FP.dadd (FP.dadd (0 : UInt64) (FP.dmul (FP.ddiv (FP.i2d a1) (4652218415073722368 : UInt64)) (FP.i2d i1))) (FP.dmul (FP.ddiv (FP.i2d a2) (4652218415073722368 : UInt64)) (FP.i2d i3))) (FP.dadd (FP.dadd (0 : UInt64) (FP.ddiv (FP.i2d a1) (4652218415073722368 : UInt64))) (FP.ddiv (FP.i2d a2) (4652218415073722368 : UInt64)))))])) (fun X t q => XS.dload X.here C.hx rfl (hb C.hby at_155) rfl q) ?_
    refine Wk.st (g' := (mkF m 158 #[.val (.int i0), .val (.int i1), .val (.int i2), .val (.int i3), .val (.int i4), .val (.int i5), .val (.int (0 : Int32)), .val (.int (1 : Int32)), .val (.int a1), .val (.int a2), .val (.int a3), .val (.ref b2), .val (.ref n375_b169), .val (.long (((a1.toInt64) * (i1.toInt64)) + ((a2.toInt64) * (i3.toInt64)))), .second, .val (.double (FP.ddiv (FP.l2d (((a1.toInt64) * (i1.toInt64)) + ((a2.toInt64) * (i3.toInt64)))) (FP.i2d (a1 + a2)))), .second] [(.int (0 : Int32))])) (fun X t q => XS.dcmpS X.here C.hx rfl (hb C.hby at_157) rfl (DQ.cmp (i := a1.toInt * i1.toInt + a2.toInt * i3.toInt) (j := a1.toInt + a2.toInt) (DQ.cast (DQ.sc (DSc.add (DSc.add DSc.zero (DSc.mul (DSc.div (Jvm.FP.Core.i2d_int a1) (nab (by omega) (by omega))) (Jvm.FP.Core.i2d_int i1) (nab (by omega) (by omega))) (nab (by omega) (by omega))) (DSc.mul (DSc.div (Jvm.FP.Core.i2d_int a2) (nab (by omega) (by omega))) (Jvm.FP.Core.i2d_int i3) (nab (by omega) (by omega))) (nab (by omega) (by omega))) (DSc.add (DSc.add DSc.zero (DSc.div (Jvm.FP.Core.i2d_int a1) (nab (by omega) (by omega))) (nab (by omega) (by omega))) (DSc.div (Jvm.FP.Core.i2d_int a2) (nab (by omega) (by omega))) (nab (by omega) (by omega))) (by omega)) (by omega) (by omega)) (DQ.cast (DQ.whole (Jvm.FP.Core.l2d_int (a := (((a1.toInt64) * (i1.toInt64)) + ((a2.toInt64) * (i3.toInt64)))) (by rw [num_is ra1' ra2']; exact (nab (by omega) (by omega)))) (Jvm.FP.Core.i2d_int (a1 + a2)) (by rw [den_is ra1' ra2']; omega)) (num_is ra1' ra2') (den_is ra1' ra2'))) q) ?_
    refine Wk.st (g' := (mkF m 161 #[.val (.int i0), .val (.int i1), .val (.int i2), .val (.int i3), .val (.int i4), .val (.int i5), .val (.int (0 : Int32)), .val (.int (1 : Int32)), .val (.int a1), .val (.int a2), .val (.int a3), .val (.ref b2), .val (.ref n375_b169), .val (.long (((a1.toInt64) * (i1.toInt64)) + ((a2.toInt64) * (i3.toInt64)))), .second, .val (.double (FP.ddiv (FP.l2d (((a1.toInt64) * (i1.toInt64)) + ((a2.toInt64) * (i3.toInt64)))) (FP.i2d (a1 + a2)))), .second] [])) (fun X t q => XS.ifNo X.here C.hx rfl (hb C.hby at_158) rfl (XT.i0_ne_f (by decide)) q) ?_
    refine Wk.st (g' := (mkF m 163 #[.val (.int i0), .val (.int i1), .val (.int i2), .val (.int i3), .val (.int i4), .val (.int i5), .val (.int (0 : Int32)), .val (.int (1 : Int32)), .val (.int a1), .val (.int a2), .val (.int a3), .val (.ref b2), .val (.ref n375_b169), .val (.long (((a1.toInt64) * (i1.toInt64)) + ((a2.toInt64) * (i3.toInt64)))), .second, .val (.double (FP.ddiv (FP.l2d (((a1.toInt64) * (i1.toInt64)) + ((a2.toInt64) * (i3.toInt64)))) (FP.i2d (a1 + a2)))), .second] [(.ref n375_b169)])) (fun X t q => XS.aload X.here C.hx rfl (hb C.hby at_161) rfl rfl q) ?_
    refine Wk.st (g' := (mkF m 165 #[.val (.int i0), .val (.int i1), .val (.int i2), .val (.int i3), .val (.int i4), .val (.int i5), .val (.int (0 : Int32)), .val (.int (1 : Int32)), .val (.int a1), .val (.int a2), .val (.int a3), .val (.ref b2), .val (.ref n375_b169), .val (.long (((a1.toInt64) * (i1.toInt64)) + ((a2.toInt64) * (i3.toInt64)))), .second, .val (.double (FP.ddiv (FP.l2d (((a1.toInt64) * (i1.toInt64)) + ((a2.toInt64) * (i3.toInt64)))) (FP.i2d (a1 + a2)))), .second] [(.int (1 : Int32)), (.ref n375_b169)])) (fun X t q => XS.iload X.here C.hx rfl (hb C.hby at_163) rfl q) ?_
    refine Wk.fLdD C F379 (i := 1) (by decide) (by decide) (by decide) (v := (.double (FP.ddiv (FP.dadd (0 : UInt64) (FP.dmul (FP.ddiv (FP.i2d a3) (4652218415073722368 : UInt64)) (FP.i2d i4))) (FP.dadd (0 : UInt64) (FP.ddiv (FP.i2d a3) (4652218415073722368 : UInt64)))))) (by simp [up]) at_165 ?_
    show Wk _ p l e _ s m _ below meth c n0 _ h376 18 46 (mkF m 166 #[.val (.int i0), .val (.int i1), .val (.int i2), .val (.int i3), .val (.int i4), .val (.int i5), .val (.int (0 : Int32)), .val (.int (1 : Int32)), .val (.int a1), .val (.int a2), .val (.int a3), .val (.ref b2), .val (.ref n375_b169), .val (.long (((a1.toInt64) * (i1.toInt64)) + ((a2.toInt64) * (i3.toInt64)))), .second, .val (.double (FP.ddiv (FP.l2d (((a1.toInt64) * (i1.toInt64)) + ((a2.toInt64) * (i3.toInt64)))) (FP.i2d (a1 + a2)))), .second] [(.double (FP.ddiv (FP.dadd (0 : UInt64) (FP.dmul (FP.ddiv (FP.i2d a3) (4652218415073722368 : UInt64)) (FP.i2d i4))) (FP.dadd (0 : UInt64) (FP.ddiv (FP.i2d a3) (4652218415073722368 : UInt64)))))])
    refine Wk.st (g' := (mkF m 168 #[.val (.int i0), .val (.int i1), .val (.int i2), .val (.int i3), .val (.int i4), .val (.int i5), .val (.int (0 : Int32)), .val (.int (1 : Int32)), .val (.int a1), .val (.int a2), .val (.int a3), .val (.ref b2), .val (.ref n375_b169), .val (.long (((a1.toInt64) * (i1.toInt64)) + ((a2.toInt64) * (i3.toInt64)))), .second, .val (.double (FP.ddiv (FP.l2d (((a1.toInt64) * (i1.toInt64)) + ((a2.toInt64) * (i3.toInt64)))) (FP.i2d (a1 + a2)))), .second] [(.int i4), (.double (FP.ddiv (FP.dadd (0 : UInt64) (FP.dmul (FP.ddiv (FP.i2d a3) (4652218415073722368 : UInt64)) (FP.i2d i4))) (FP.dadd (0 : UInt64) (FP.ddiv (FP.i2d a3) (4652218415073722368 : UInt64)))))])) (fun X t q => XS.iload X.here C.hx rfl (hb C.hby at_166) rfl q) ?_
    refine Wk.st (g' := (mkF m 169 #[.val (.int i0), .val (.int i1), .val (.int i2), .val (.int i3), .val (.int i4), .val (.int i5), .val (.int (0 : Int32)), .val (.int (1 : Int32)), .val (.int a1), .val (.int a2), .val (.int a3), .val (.ref b2), .val (.ref n375_b169), .val (.long (((a1.toInt64) * (i1.toInt64)) + ((a2.toInt64) * (i3.toInt64)))), .second, .val (.double (FP.ddiv (FP.l2d (((a1.toInt64) * (i1.toInt64)) + ((a2.toInt64) * (i3.toInt64)))) (FP.i2d (a1 + a2)))), .second] [(.double (FP.i2d i4)), (.double (FP.ddiv (FP.dadd (0 : UInt64) (FP.dmul (FP.ddiv (FP.i2d a3) (4652218415073722368 : UInt64)) (FP.i2d i4))) (FP.dadd (0 : UInt64) (FP.ddiv (FP.i2d a3) (4652218415073722368 : UInt64)))))])) (fun X t q => XS.i2dS X.here C.hx rfl (hb C.hby at_168) rfl rfl q) ?_
    refine Wk.st (g' := (mkF m 170 #[.val (.int i0), .val (.int i1), .val (.int i2), .val (.int i3), .val (.int i4), .val (.int i5), .val (.int (0 : Int32)), .val (.int (1 : Int32)), .val (.int a1), .val (.int a2), .val (.int a3), .val (.ref b2), .val (.ref n375_b169), .val (.long (((a1.toInt64) * (i1.toInt64)) + ((a2.toInt64) * (i3.toInt64)))), .second, .val (.double (FP.ddiv (FP.l2d (((a1.toInt64) * (i1.toInt64)) + ((a2.toInt64) * (i3.toInt64)))) (FP.i2d (a1 + a2)))), .second] [(.int (0 : Int32))])) (fun X t q => XS.dcmpS X.here C.hx rfl (hb C.hby at_169) rfl (DQ.cmp (i := i4.toInt) (j := 1) (Qn.int (j := a3.toInt) (DQ.cast (DQ.sc (DSc.add DSc.zero (DSc.mul (DSc.div (Jvm.FP.Core.i2d_int a3) (nab (by omega) (by omega))) (Jvm.FP.Core.i2d_int i4) (nab (by omega) (by omega))) (nab (by omega) (by omega))) (DSc.add DSc.zero (DSc.div (Jvm.FP.Core.i2d_int a3) (nab (by omega) (by omega))) (nab (by omega) (by omega))) (by omega)) (by omega) (by omega)) (by omega)) (Qn.i2d i4)) q) ?_
    refine Wk.st (g' := (mkF m 173 #[.val (.int i0), .val (.int i1), .val (.int i2), .val (.int i3), .val (.int i4), .val (.int i5), .val (.int (0 : Int32)), .val (.int (1 : Int32)), .val (.int a1), .val (.int a2), .val (.int a3), .val (.ref b2), .val (.ref n375_b169), .val (.long (((a1.toInt64) * (i1.toInt64)) + ((a2.toInt64) * (i3.toInt64)))), .second, .val (.double (FP.ddiv (FP.l2d (((a1.toInt64) * (i1.toInt64)) + ((a2.toInt64) * (i3.toInt64)))) (FP.i2d (a1 + a2)))), .second] [])) (fun X t q => XS.ifNo X.here C.hx rfl (hb C.hby at_170) rfl (XT.i0_ne_f (by decide)) q) ?_
    refine Wk.st (g' := (mkF m 174 #[.val (.int i0), .val (.int i1), .val (.int i2), .val (.int i3), .val (.int i4), .val (.int i5), .val (.int (0 : Int32)), .val (.int (1 : Int32)), .val (.int a1), .val (.int a2), .val (.int a3), .val (.ref b2), .val (.ref n375_b169), .val (.long (((a1.toInt64) * (i1.toInt64)) + ((a2.toInt64) * (i3.toInt64)))), .second, .val (.double (FP.ddiv (FP.l2d (((a1.toInt64) * (i1.toInt64)) + ((a2.toInt64) * (i3.toInt64)))) (FP.i2d (a1 + a2)))), .second] [(.int (1 : Int32))])) (fun X t q => XS.iconst X.here C.hx rfl (hb C.hby at_173) q) ?_
    refine Wk.st (g' := (mkF m 178 #[.val (.int i0), .val (.int i1), .val (.int i2), .val (.int i3), .val (.int i4), .val (.int i5), .val (.int (0 : Int32)), .val (.int (1 : Int32)), .val (.int a1), .val (.int a2), .val (.int a3), .val (.ref b2), .val (.ref n375_b169), .val (.long (((a1.toInt64) * (i1.toInt64)) + ((a2.toInt64) * (i3.toInt64)))), .second, .val (.double (FP.ddiv (FP.l2d (((a1.toInt64) * (i1.toInt64)) + ((a2.toInt64) * (i3.toInt64)))) (FP.i2d (a1 + a2)))), .second] [(.int (1 : Int32))])) (fun X t q => XS.goto X.here C.hx rfl (pc0 := 174) (pc' := 178) rfl (hb C.hby at_174) (by decide) (by decide) q) ?_
    exact Wk.retV C (t := .boolean) rfl rfl (Or.inl ⟨rfl, by simp, _, rfl⟩) at_178 (by decide) (by decide) ⟨rfl, trivial⟩
  · skip
    show Wk _ p l e _ s m _ below meth c n0 _ h0 0 0 (mkF m 6 #[.val (.int i0), .val (.int i1), .val (.int i2), .val (.int i3), .val (.int i4), .val (.int i5), .val (.int (1 : Int32)), .unset, .unset, .unset, .unset, .unset, .unset, .unset, .unset, .unset, .unset] [])
    refine Wk.st (g' := (mkF m 7 #[.val (.int i0), .val (.int i1), .val (.int i2), .val (.int i3), .val (.int i4), .val (.int i5), .val (.int (1 : Int32)), .unset, .unset, .unset, .unset, .unset, .unset, .unset, .unset, .unset, .unset] [(.int (1 : Int32))])) (fun X t q => XS.iconst X.here C.hx rfl (hb C.hby at_6) q) ?_
    refine Wk.st (g' := (mkF m 9 #[.val (.int i0), .val (.int i1), .val (.int i2), .val (.int i3), .val (.int i4), .val (.int i5), .val (.int (1 : Int32)), .unset, .unset, .unset, .unset, .unset, .unset, .unset, .unset, .unset, .unset] [(.int (1 : Int32)), (.int (1 : Int32))])) (fun X t q => XS.iload X.here C.hx rfl (hb C.hby at_7) rfl q) ?_
    refine Wk.st (g' := (mkF m 10 #[.val (.int i0), .val (.int i1), .val (.int i2), .val (.int i3), .val (.int i4), .val (.int i5), .val (.int (1 : Int32)), .unset, .unset, .unset, .unset, .unset, .unset, .unset, .unset, .unset, .unset] [(.int (0 : Int32))])) (fun X t q => XS.isub X.here C.hx rfl (hb C.hby at_9) rfl q) ?_
    refine Wk.st (g' := (mkF m 12 #[.val (.int i0), .val (.int i1), .val (.int i2), .val (.int i3), .val (.int i4), .val (.int i5), .val (.int (1 : Int32)), .val (.int (0 : Int32)), .unset, .unset, .unset, .unset, .unset, .unset, .unset, .unset, .unset] [])) (fun X t q => XS.istore X.here C.hx rfl (hb C.hby at_10) rfl (l' := #[.val (.int i0), .val (.int i1), .val (.int i2), .val (.int i3), .val (.int i4), .val (.int i5), .val (.int (1 : Int32)), .val (.int (0 : Int32)), .unset, .unset, .unset, .unset, .unset, .unset, .unset, .unset, .unset]) rfl q) ?_
    refine Wk.st (g' := (mkF m 13 #[.val (.int i0), .val (.int i1), .val (.int i2), .val (.int i3), .val (.int i4), .val (.int i5), .val (.int (1 : Int32)), .val (.int (0 : Int32)), .unset, .unset, .unset, .unset, .unset, .unset, .unset, .unset, .unset] [(.int i0)])) (fun X t q => XS.iloadN X.here C.hx rfl (hb C.hby at_12) rfl q) ?_
    refine Wk.st (g' := (mkF m 16 #[.val (.int i0), .val (.int i1), .val (.int i2), .val (.int i3), .val (.int i4), .val (.int i5), .val (.int (1 : Int32)), .val (.int (0 : Int32)), .unset, .unset, .unset, .unset, .unset, .unset, .unset, .unset, .unset] [(.int (511 : Int32)), (.int i0)])) (fun X t q => XS.sipush X.here C.hx rfl (hb C.hby at_13) q) ?_
    refine Wk.st (g' := (mkF m 17 #[.val (.int i0), .val (.int i1), .val (.int i2), .val (.int i3), .val (.int i4), .val (.int i5), .val (.int (1 : Int32)), .val (.int (0 : Int32)), .unset, .unset, .unset, .unset, .unset, .unset, .unset, .unset, .unset] [(.int (i0 &&& (511 : Int32)))])) (fun X t q => XS.iand X.here C.hx rfl (hb C.hby at_16) rfl q) ?_
    refine Wk.st (g' := (mkF m 18 #[.val (.int i0), .val (.int i1), .val (.int i2), .val (.int i3), .val (.int i4), .val (.int i5), .val (.int (1 : Int32)), .val (.int (0 : Int32)), .unset, .unset, .unset, .unset, .unset, .unset, .unset, .unset, .unset] [(.int (1 : Int32)), (.int (i0 &&& (511 : Int32)))])) (fun X t q => XS.iconst X.here C.hx rfl (hb C.hby at_17) q) ?_
    refine Wk.st (g' := (mkF m 19 #[.val (.int i0), .val (.int i1), .val (.int i2), .val (.int i3), .val (.int i4), .val (.int i5), .val (.int (1 : Int32)), .val (.int (0 : Int32)), .unset, .unset, .unset, .unset, .unset, .unset, .unset, .unset, .unset] [(.int ((i0 &&& (511 : Int32)) + (1 : Int32)))])) (fun X t q => XS.iadd X.here C.hx rfl (hb C.hby at_18) rfl q) ?_
    refine Wk.st (g' := (mkF m 21 #[.val (.int i0), .val (.int i1), .val (.int i2), .val (.int i3), .val (.int i4), .val (.int i5), .val (.int (1 : Int32)), .val (.int (0 : Int32)), .val (.int ((i0 &&& (511 : Int32)) + (1 : Int32))), .unset, .unset, .unset, .unset, .unset, .unset, .unset, .unset] [])) (fun X t q => XS.istore X.here C.hx rfl (hb C.hby at_19) rfl (l' := #[.val (.int i0), .val (.int i1), .val (.int i2), .val (.int i3), .val (.int i4), .val (.int i5), .val (.int (1 : Int32)), .val (.int (0 : Int32)), .val (.int ((i0 &&& (511 : Int32)) + (1 : Int32))), .unset, .unset, .unset, .unset, .unset, .unset, .unset, .unset]) rfl q) ?_
    obtain ⟨a1, ha1⟩ : ∃ z, z = ((i0 &&& (511 : Int32)) + (1 : Int32)) := ⟨_, rfl⟩
    rw [← ha1]
    have ra1 := b511p (i0)
    rw [← ha1] at ra1
    have ra1' : 0 ≤ a1.toInt ∧ a1.toInt ≤ 512 := by omega
    have ma1 := mulb ra1'.1 ra1'.2 (Int32.le_toInt i1) (Int32.toInt_lt i1)
    show Wk _ p l e _ s m _ below meth c n0 _ h0 0 0 (mkF m 21 #[.val (.int i0), .val (.int i1), .val (.int i2), .val (.int i3), .val (.int i4), .val (.int i5), .val (.int (1 : Int32)), .val (.int (0 : Int32)), .val (.int a1), .unset, .unset, .unset, .unset, .unset, .unset, .unset, .unset] [])
    refine Wk.st (g' := (mkF m 22 #[.val (.int i0), .val (.int i1), .val (.int i2), .val (.int i3), .val (.int i4), .val (.int i5), .val (.int (1 : Int32)), .val (.int (0 : Int32)), .val (.int a1), .unset, .unset, .unset, .unset, .unset, .unset, .unset, .unset] [(.int i2)])) (fun X t q => XS.iloadN X.here C.hx rfl (hb C.hby at_21) rfl q) ?_
    refine Wk.st (g' := (mkF m 25 #[.val (.int i0), .val (.int i1), .val (.int i2), .val (.int i3), .val (.int i4), .val (.int i5), .val (.int (1 : Int32)), .val (.int (0 : Int32)), .val (.int a1), .unset, .unset, .unset, .unset, .unset, .unset, .unset, .unset] [(.int (511 : Int32)), (.int i2)])) (fun X t q => XS.sipush X.here C.hx rfl (hb C.hby at_22) q) ?_
    refine Wk.st (g' := (mkF m 26 #[.val (.int i0), .val (.int i1), .val (.int i2), .val (.int i3), .val (.int i4), .val (.int i5), .val (.int (1 : Int32)), .val (.int (0 : Int32)), .val (.int a1), .unset, .unset, .unset, .unset, .unset, .unset, .unset, .unset] [(.int (i2 &&& (511 : Int32)))])) (fun X t q => XS.iand X.here C.hx rfl (hb C.hby at_25) rfl q) ?_
    refine Wk.st (g' := (mkF m 28 #[.val (.int i0), .val (.int i1), .val (.int i2), .val (.int i3), .val (.int i4), .val (.int i5), .val (.int (1 : Int32)), .val (.int (0 : Int32)), .val (.int a1), .val (.int (i2 &&& (511 : Int32))), .unset, .unset, .unset, .unset, .unset, .unset, .unset] [])) (fun X t q => XS.istore X.here C.hx rfl (hb C.hby at_26) rfl (l' := #[.val (.int i0), .val (.int i1), .val (.int i2), .val (.int i3), .val (.int i4), .val (.int i5), .val (.int (1 : Int32)), .val (.int (0 : Int32)), .val (.int a1), .val (.int (i2 &&& (511 : Int32))), .unset, .unset, .unset, .unset, .unset, .unset, .unset]) rfl q) ?_
    obtain ⟨a2, ha2⟩ : ∃ z, z = (i2 &&& (511 : Int32)) := ⟨_, rfl⟩
    rw [← ha2]
    have ra2 := b511 (i2)
    rw [← ha2] at ra2
    have ra2' : 0 ≤ a2.toInt ∧ a2.toInt ≤ 512 := by omega
    have ma2 := mulb ra2'.1 ra2'.2 (Int32.le_toInt i3) (Int32.toInt_lt i3)
    show Wk _ p l e _ s m _ below meth c n0 _ h0 0 0 (mkF m 28 #[.val (.int i0), .val (.int i1), .val (.int i2), .val (.int i3), .val (.int i4), .val (.int i5), .val (.int (1 : Int32)), .val (.int (0 : Int32)), .val (.int a1), .val (.int a2), .unset, .unset, .unset, .unset, .unset, .unset, .unset] [])
    refine Wk.st (g' := (mkF m 30 #[.val (.int i0), .val (.int i1), .val (.int i2), .val (.int i3), .val (.int i4), .val (.int i5), .val (.int (1 : Int32)), .val (.int (0 : Int32)), .val (.int a1), .val (.int a2), .unset, .unset, .unset, .unset, .unset, .unset, .unset] [(.int i5)])) (fun X t q => XS.iload X.here C.hx rfl (hb C.hby at_28) rfl q) ?_
    refine Wk.st (g' := (mkF m 31 #[.val (.int i0), .val (.int i1), .val (.int i2), .val (.int i3), .val (.int i4), .val (.int i5), .val (.int (1 : Int32)), .val (.int (0 : Int32)), .val (.int a1), .val (.int a2), .unset, .unset, .unset, .unset, .unset, .unset, .unset] [(.int (1 : Int32)), (.int i5)])) (fun X t q => XS.iconst X.here C.hx rfl (hb C.hby at_30) q) ?_
    refine Wk.st (g' := (mkF m 32 #[.val (.int i0), .val (.int i1), .val (.int i2), .val (.int i3), .val (.int i4), .val (.int i5), .val (.int (1 : Int32)), .val (.int (0 : Int32)), .val (.int a1), .val (.int a2), .unset, .unset, .unset, .unset, .unset, .unset, .unset] [(.int ((i5.toUInt32 >>> ((1 : Int32) &&& 31).toUInt32).toInt32))])) (fun X t q => XS.iushr X.here C.hx rfl (hb C.hby at_31) rfl q) ?_
    refine Wk.st (g' := (mkF m 35 #[.val (.int i0), .val (.int i1), .val (.int i2), .val (.int i3), .val (.int i4), .val (.int i5), .val (.int (1 : Int32)), .val (.int (0 : Int32)), .val (.int a1), .val (.int a2), .unset, .unset, .unset, .unset, .unset, .unset, .unset] [(.int (511 : Int32)), (.int ((i5.toUInt32 >>> ((1 : Int32) &&& 31).toUInt32).toInt32))])) (fun X t q => XS.sipush X.here C.hx rfl (hb C.hby at_32) q) ?_
    refine Wk.st (g' := (mkF m 36 #[.val (.int i0), .val (.int i1), .val (.int i2), .val (.int i3), .val (.int i4), .val (.int i5), .val (.int (1 : Int32)), .val (.int (0 : Int32)), .val (.int a1), .val (.int a2), .unset, .unset, .unset, .unset, .unset, .unset, .unset] [(.int (((i5.toUInt32 >>> ((1 : Int32) &&& 31).toUInt32).toInt32) &&& (511 : Int32)))])) (fun X t q => XS.iand X.here C.hx rfl (hb C.hby at_35) rfl q) ?_
    refine Wk.st (g' := (mkF m 37 #[.val (.int i0), .val (.int i1), .val (.int i2), .val (.int i3), .val (.int i4), .val (.int i5), .val (.int (1 : Int32)), .val (.int (0 : Int32)), .val (.int a1), .val (.int a2), .unset, .unset, .unset, .unset, .unset, .unset, .unset] [(.int (1 : Int32)), (.int (((i5.toUInt32 >>> ((1 : Int32) &&& 31).toUInt32).toInt32) &&& (511 : Int32)))])) (fun X t q => XS.iconst X.here C.hx rfl (hb C.hby at_36) q) ?_
    refine Wk.st (g' := (mkF m 38 #[.val (.int i0), .val (.int i1), .val (.int i2), .val (.int i3), .val (.int i4), .val (.int i5), .val (.int (1 : Int32)), .val (.int (0 : Int32)), .val (.int a1), .val (.int a2), .unset, .unset, .unset, .unset, .unset, .unset, .unset] [(.int ((((i5.toUInt32 >>> ((1 : Int32) &&& 31).toUInt32).toInt32) &&& (511 : Int32)) + (1 : Int32)))])) (fun X t q => XS.iadd X.here C.hx rfl (hb C.hby at_37) rfl q) ?_
    refine Wk.st (g' := (mkF m 40 #[.val (.int i0), .val (.int i1), .val (.int i2), .val (.int i3), .val (.int i4), .val (.int i5), .val (.int (1 : Int32)), .val (.int (0 : Int32)), .val (.int a1), .val (.int a2), .val (.int ((((i5.toUInt32 >>> ((1 : Int32) &&& 31).toUInt32).toInt32) &&& (511 : Int32)) + (1 : Int32))), .unset, .unset, .unset, .unset, .unset, .unset] [])) (fun X t q => XS.istore X.here C.hx rfl (hb C.hby at_38) rfl (l' := #[.val (.int i0), .val (.int i1), .val (.int i2), .val (.int i3), .val (.int i4), .val (.int i5), .val (.int (1 : Int32)), .val (.int (0 : Int32)), .val (.int a1), .val (.int a2), .val (.int ((((i5.toUInt32 >>> ((1 : Int32) &&& 31).toUInt32).toInt32) &&& (511 : Int32)) + (1 : Int32))), .unset, .unset, .unset, .unset, .unset, .unset]) rfl q) ?_
    obtain ⟨a3, ha3⟩ : ∃ z, z = ((((i5.toUInt32 >>> ((1 : Int32) &&& 31).toUInt32).toInt32) &&& (511 : Int32)) + (1 : Int32)) := ⟨_, rfl⟩
    rw [← ha3]
    have ra3 := b511p (((i5.toUInt32 >>> ((1 : Int32) &&& 31).toUInt32).toInt32))
    rw [← ha3] at ra3
    have ra3' : 0 ≤ a3.toInt ∧ a3.toInt ≤ 512 := by omega
    have ma3 := mulb ra3'.1 ra3'.2 (Int32.le_toInt i4) (Int32.toInt_lt i4)
    show Wk _ p l e _ s m _ below meth c n0 _ h0 0 0 (mkF m 40 #[.val (.int i0), .val (.int i1), .val (.int i2), .val (.int i3), .val (.int i4), .val (.int i5), .val (.int (1 : Int32)), .val (.int (0 : Int32)), .val (.int a1), .val (.int a2), .val (.int a3), .unset, .unset, .unset, .unset, .unset, .unset] [])
    refine Wk.newO C (hw _ (List.mem_of_getElem? (i := 0) rfl)) (hw _ (List.mem_of_getElem? (i := 1) rfl)) (hw _ (List.mem_of_getElem? (i := 2) rfl)) at_40 (by decide) (by decide) ?_
    intro h443 b444 g445 E446 A447 D448
    have ge449 : n0 ≤ b444 := Nat.le_trans hsz (Nat.le_of_eq g445.symm)
    have gz450 : h0.size ≤ b444 := Nat.le_trans (Nat.le_refl h0.size) (Nat.le_of_eq g445.symm)
    have sz451 : n0 ≤ h443.size := Nat.le_trans hsz E446.1
    have sy452 : h0.size ≤ h443.size := Nat.le_trans (Nat.le_refl h0.size) E446.1
    have F453 : Fld Z h443 b444 "com/example/torino/torino/AbsorbingChain" "markedRow" "I" (.int (0 : Int32)) := D448 (Or.inl (hw _ (List.mem_of_getElem? (i := 10) rfl))) (ty := .int) (by decide)
    have F454 : Fld Z h443 b444 "com/example/torino/torino/AbsorbingChain" "size" "I" (.int (0 : Int32)) := D448 (Or.inr (hw _ (List.mem_of_getElem? (i := 12) rfl))) (ty := .int) (by decide)
    have F455 : Fld Z h443 b444 "com/example/torino/torino/AbsorbingChain" "exitProbabilities" "[D" .null := D448 (Or.inr (hw _ (List.mem_of_getElem? (i := 15) rfl))) (ty := (.array .double)) (by decide)
    have F456 : Fld Z h443 b444 "com/example/torino/torino/AbsorbingChain" "exitValues" "[D" .null := D448 (Or.inr (hw _ (List.mem_of_getElem? (i := 17) rfl))) (ty := (.array .double)) (by decide)
    have F457 : Fld Z h443 b444 "com/example/torino/torino/AbsorbingChain" "nexts" "[[I" .null := D448 (Or.inr (hw _ (List.mem_of_getElem? (i := 21) rfl))) (ty := (.array (.array .int))) (by decide)
    have F458 : Fld Z h443 b444 "com/example/torino/torino/AbsorbingChain" "probabilities" "[[D" .null := D448 (Or.inr (hw _ (List.mem_of_getElem? (i := 25) rfl))) (ty := (.array (.array .double))) (by decide)
    have F459 : Fld Z h443 b444 "com/example/torino/torino/AbsorbingChain" "lengths" "[I" .null := D448 (Or.inr (hw _ (List.mem_of_getElem? (i := 28) rfl))) (ty := (.array .int)) (by decide)
    have F460 : Fld Z h443 b444 "com/example/torino/torino/AbsorbingChain" "predecessors" "[[I" .null := D448 (Or.inr (hw _ (List.mem_of_getElem? (i := 30) rfl))) (ty := (.array (.array .int))) (by decide)
    have F461 : Fld Z h443 b444 "com/example/torino/torino/AbsorbingChain" "predecessorCounts" "[I" .null := D448 (Or.inr (hw _ (List.mem_of_getElem? (i := 32) rfl))) (ty := (.array .int)) (by decide)
    have F462 : Fld Z h443 b444 "com/example/torino/torino/AbsorbingChain" "entryMarks" "[I" .null := D448 (Or.inr (hw _ (List.mem_of_getElem? (i := 34) rfl))) (ty := (.array .int)) (by decide)
    have F463 : Fld Z h443 b444 "com/example/torino/torino/AbsorbingChain" "entries" "[I" .null := D448 (Or.inr (hw _ (List.mem_of_getElem? (i := 36) rfl))) (ty := (.array .int)) (by decide)
    show Wk _ p l e _ s m _ below meth c n0 _ h443 1 12 (mkF m 43 #[.val (.int i0), .val (.int i1), .val (.int i2), .val (.int i3), .val (.int i4), .val (.int i5), .val (.int (1 : Int32)), .val (.int (0 : Int32)), .val (.int a1), .val (.int a2), .val (.int a3), .unset, .unset, .unset, .unset, .unset, .unset] [(.ref b444)])
    refine Wk.st (g' := (mkF m 44 #[.val (.int i0), .val (.int i1), .val (.int i2), .val (.int i3), .val (.int i4), .val (.int i5), .val (.int (1 : Int32)), .val (.int (0 : Int32)), .val (.int a1), .val (.int a2), .val (.int a3), .unset, .unset, .unset, .unset, .unset, .unset] [(.ref b444), (.ref b444)])) (fun X t q => XS.dup X.here C.hx rfl (hb C.hby at_43) rfl rfl q) ?_
    refine Wk.st (g' := (mkF m 45 #[.val (.int i0), .val (.int i1), .val (.int i2), .val (.int i3), .val (.int i4), .val (.int i5), .val (.int (1 : Int32)), .val (.int (0 : Int32)), .val (.int a1), .val (.int a2), .val (.int a3), .unset, .unset, .unset, .unset, .unset, .unset] [(.int (2 : Int32)), (.ref b444), (.ref b444)])) (fun X t q => XS.iconst X.here C.hx rfl (hb C.hby at_44) q) ?_
    refine Wk.callI C (z := (⟨"com/example/torino/torino/AbsorbingChain", "<init>", "(I)V"⟩ : MethodName)) rfl (hw _ (List.mem_of_getElem? (i := 3) rfl)) (hw _ (List.mem_of_getElem? (i := 4) rfl)) (hw _ (List.mem_of_getElem? (i := 2) rfl)) (hw _ (List.mem_of_getElem? (i := 5) rfl)) (by decide) (own_1_0 l Z a0 hw n0 h443 sz451 b444  A447 F453 F454 F455 F456 F457 F458 F459 F460 F461 F462 F463  ge449) (w := 1) (by decide) (by decide) pd_0 rfl (rest := [(.ref b444)]) rfl rfl (Nat.le_of_eq rfl) (by decide) (by decide) at_45 ?_
    rintro _ h465 ⟨n464_b36, n464_b79, n464_b127, n464_b180, n464_b238, n464_b301, n464_b369, n464_b442, n464_b520, n464_b603, n464_b882, n464_b691, n464_b985, n464_b784, n464_b1093, rfl, K466, gn508, gn509, gn510, gn511, gn512, gn513, gn514, gn515, gn516, gn517, gn518, gn519, gn520, gn521, gn522, ne523, ne524, ne525, ne526, ne527, ne528, ne529, ne530, ne531, ne532, ne533, ne534, ne535, ne536, ne537, ne538, ne539, ne540, ne541, ne542, ne543, ne544, ne545, ne546, ne547, ne548, ne549, ne550, ne551, ne552, ne553, ne554, ne555, ne556, ne557, ne558, ne559, ne560, ne561, ne562, ne563, ne564, ne565, ne566, ne567, ne568, ne569, ne570, ne571, ne572, ne573, ne574, ne575, ne576, ne577, ne578, ne579, ne580, ne581, ne582, ne583, ne584, ne585, ne586, ne587, ne588, ne589, ne590, ne591, ne592, ne593, ne594, ne595, ne596, ne597, ne598, ne599, ne600, ne601, ne602, ne603, ne604, ne605, ne606, ne607, ne608, ne609, ne610, ne611, ne612, ne613, ne614, ne615, ne616, ne617, ne618, ne619, ne620, ne621, ne622, ne623, ne624, ne625, ne626, ne627, F467, F468, F469, F470, F471, F472, F473, F474, F475, F476, F477, F478, F479, F480, F481, F482, F483, F484, F485, F486, F487, F488, F489, F490, F491, F492, F493, F494, F495, F496, F497, F498, F499, F500, F501, F502, F503, F504, F505, F506, F507⟩
    show Wk _ p l e _ s m _ below meth c n0 _ h465 16 42 (mkF m 48 #[.val (.int i0), .val (.int i1), .val (.int i2), .val (.int i3), .val (.int i4), .val (.int i5), .val (.int (1 : Int32)), .val (.int (0 : Int32)), .val (.int a1), .val (.int a2), .val (.int a3), .unset, .unset, .unset, .unset, .unset, .unset] [(.ref b444)])
    have ne628 : b444 ≠ n464_b36 := Nat.ne_of_lt (Nat.lt_of_lt_of_le A447.lt gn508)
    have ge629 : n0 ≤ n464_b36 := Nat.le_trans sz451 gn508
    have gz630 : h0.size ≤ n464_b36 := Nat.le_trans sy452 gn508
    have ne631 : b444 ≠ n464_b79 := Nat.ne_of_lt (Nat.lt_of_lt_of_le A447.lt gn509)
    have ge632 : n0 ≤ n464_b79 := Nat.le_trans sz451 gn509
    have gz633 : h0.size ≤ n464_b79 := Nat.le_trans sy452 gn509
    have ne634 : b444 ≠ n464_b127 := Nat.ne_of_lt (Nat.lt_of_lt_of_le A447.lt gn510)
    have ge635 : n0 ≤ n464_b127 := Nat.le_trans sz451 gn510
    have gz636 : h0.size ≤ n464_b127 := Nat.le_trans sy452 gn510
    have ne637 : b444 ≠ n464_b180 := Nat.ne_of_lt (Nat.lt_of_lt_of_le A447.lt gn511)
    have ge638 : n0 ≤ n464_b180 := Nat.le_trans sz451 gn511
    have gz639 : h0.size ≤ n464_b180 := Nat.le_trans sy452 gn511
    have ne640 : b444 ≠ n464_b238 := Nat.ne_of_lt (Nat.lt_of_lt_of_le A447.lt gn512)
    have ge641 : n0 ≤ n464_b238 := Nat.le_trans sz451 gn512
    have gz642 : h0.size ≤ n464_b238 := Nat.le_trans sy452 gn512
    have ne643 : b444 ≠ n464_b301 := Nat.ne_of_lt (Nat.lt_of_lt_of_le A447.lt gn513)
    have ge644 : n0 ≤ n464_b301 := Nat.le_trans sz451 gn513
    have gz645 : h0.size ≤ n464_b301 := Nat.le_trans sy452 gn513
    have ne646 : b444 ≠ n464_b369 := Nat.ne_of_lt (Nat.lt_of_lt_of_le A447.lt gn514)
    have ge647 : n0 ≤ n464_b369 := Nat.le_trans sz451 gn514
    have gz648 : h0.size ≤ n464_b369 := Nat.le_trans sy452 gn514
    have ne649 : b444 ≠ n464_b442 := Nat.ne_of_lt (Nat.lt_of_lt_of_le A447.lt gn515)
    have ge650 : n0 ≤ n464_b442 := Nat.le_trans sz451 gn515
    have gz651 : h0.size ≤ n464_b442 := Nat.le_trans sy452 gn515
    have ne652 : b444 ≠ n464_b520 := Nat.ne_of_lt (Nat.lt_of_lt_of_le A447.lt gn516)
    have ge653 : n0 ≤ n464_b520 := Nat.le_trans sz451 gn516
    have gz654 : h0.size ≤ n464_b520 := Nat.le_trans sy452 gn516
    have ne655 : b444 ≠ n464_b603 := Nat.ne_of_lt (Nat.lt_of_lt_of_le A447.lt gn517)
    have ge656 : n0 ≤ n464_b603 := Nat.le_trans sz451 gn517
    have gz657 : h0.size ≤ n464_b603 := Nat.le_trans sy452 gn517
    have ne658 : b444 ≠ n464_b882 := Nat.ne_of_lt (Nat.lt_of_lt_of_le A447.lt gn518)
    have ge659 : n0 ≤ n464_b882 := Nat.le_trans sz451 gn518
    have gz660 : h0.size ≤ n464_b882 := Nat.le_trans sy452 gn518
    have ne661 : b444 ≠ n464_b691 := Nat.ne_of_lt (Nat.lt_of_lt_of_le A447.lt gn519)
    have ge662 : n0 ≤ n464_b691 := Nat.le_trans sz451 gn519
    have gz663 : h0.size ≤ n464_b691 := Nat.le_trans sy452 gn519
    have ne664 : b444 ≠ n464_b985 := Nat.ne_of_lt (Nat.lt_of_lt_of_le A447.lt gn520)
    have ge665 : n0 ≤ n464_b985 := Nat.le_trans sz451 gn520
    have gz666 : h0.size ≤ n464_b985 := Nat.le_trans sy452 gn520
    have ne667 : b444 ≠ n464_b784 := Nat.ne_of_lt (Nat.lt_of_lt_of_le A447.lt gn521)
    have ge668 : n0 ≤ n464_b784 := Nat.le_trans sz451 gn521
    have gz669 : h0.size ≤ n464_b784 := Nat.le_trans sy452 gn521
    have ne670 : b444 ≠ n464_b1093 := Nat.ne_of_lt (Nat.lt_of_lt_of_le A447.lt gn522)
    have ge671 : n0 ≤ n464_b1093 := Nat.le_trans sz451 gn522
    have gz672 : h0.size ≤ n464_b1093 := Nat.le_trans sy452 gn522
    have F673 : Exa Z h465 b444 "com/example/torino/torino/AbsorbingChain" := A447.keep K466
    have sz674 : n0 ≤ h465.size := Nat.le_trans sz451 K466.1
    have sy675 : h0.size ≤ h465.size := Nat.le_trans sy452 K466.1
    refine Wk.st (g' := (mkF m 50 #[.val (.int i0), .val (.int i1), .val (.int i2), .val (.int i3), .val (.int i4), .val (.int i5), .val (.int (1 : Int32)), .val (.int (0 : Int32)), .val (.int a1), .val (.int a2), .val (.int a3), .val (.ref b444), .unset, .unset, .unset, .unset, .unset] [])) (fun X t q => XS.astore X.here C.hx rfl (hb C.hby at_48) rfl rfl (l' := #[.val (.int i0), .val (.int i1), .val (.int i2), .val (.int i3), .val (.int i4), .val (.int i5), .val (.int (1 : Int32)), .val (.int (0 : Int32)), .val (.int a1), .val (.int a2), .val (.int a3), .val (.ref b444), .unset, .unset, .unset, .unset, .unset]) rfl q) ?_
    refine Wk.st (g' := (mkF m 52 #[.val (.int i0), .val (.int i1), .val (.int i2), .val (.int i3), .val (.int i4), .val (.int i5), .val (.int (1 : Int32)), .val (.int (0 : Int32)), .val (.int a1), .val (.int a2), .val (.int a3), .val (.ref b444), .unset, .unset, .unset, .unset, .unset] [(.ref b444)])) (fun X t q => XS.aload X.here C.hx rfl (hb C.hby at_50) rfl rfl q) ?_
    refine Wk.st (g' := (mkF m 54 #[.val (.int i0), .val (.int i1), .val (.int i2), .val (.int i3), .val (.int i4), .val (.int i5), .val (.int (1 : Int32)), .val (.int (0 : Int32)), .val (.int a1), .val (.int a2), .val (.int a3), .val (.ref b444), .unset, .unset, .unset, .unset, .unset] [(.int (1 : Int32)), (.ref b444)])) (fun X t q => XS.iload X.here C.hx rfl (hb C.hby at_52) rfl q) ?_
    refine Wk.st (g' := (mkF m 56 #[.val (.int i0), .val (.int i1), .val (.int i2), .val (.int i3), .val (.int i4), .val (.int i5), .val (.int (1 : Int32)), .val (.int (0 : Int32)), .val (.int a1), .val (.int a2), .val (.int a3), .val (.ref b444), .unset, .unset, .unset, .unset, .unset] [(.int a1), (.int (1 : Int32)), (.ref b444)])) (fun X t q => XS.iload X.here C.hx rfl (hb C.hby at_54) rfl q) ?_
    refine Wk.st (g' := (mkF m 57 #[.val (.int i0), .val (.int i1), .val (.int i2), .val (.int i3), .val (.int i4), .val (.int i5), .val (.int (1 : Int32)), .val (.int (0 : Int32)), .val (.int a1), .val (.int a2), .val (.int a3), .val (.ref b444), .unset, .unset, .unset, .unset, .unset] [(.double (FP.i2d a1)), (.int (1 : Int32)), (.ref b444)])) (fun X t q => XS.i2dS X.here C.hx rfl (hb C.hby at_56) rfl rfl q) ?_
    refine Wk.ldc2D C (hw _ (List.mem_of_getElem? (i := 39) rfl)) at_57 ?_
    show Wk _ p l e _ s m _ below meth c n0 _ h465 16 42 (mkF m 60 #[.val (.int i0), .val (.int i1), .val (.int i2), .val (.int i3), .val (.int i4), .val (.int i5), .val (.int (1 : Int32)), .val (.int (0 : Int32)), .val (.int a1), .val (.int a2), .val (.int a3), .val (.ref b444), .unset, .unset, .unset, .unset, .unset] [(.double (4652218415073722368 : UInt64)), (.double (FP.i2d a1)), (.int (1 : Int32)), (.ref b444)])
    refine Wk.st (g' := (mkF m 61 #[.val (.int i0), .val (.int i1), .val (.int i2), .val (.int i3), .val (.int i4), .val (.int i5), .val (.int (1 : Int32)), .val (.int (0 : Int32)), .val (.int a1), .val (.int a2), .val (.int a3), .val (.ref b444), .unset, .unset, .unset, .unset, .unset] [(.double (FP.ddiv (FP.i2d a1) (4652218415073722368 : UInt64))), (.int (1 : Int32)), (.ref b444)])) (fun X t q => XS.ddivS X.here C.hx rfl (hb C.hby at_60) rfl (DSc.nn (DSc.div (Jvm.FP.Core.i2d_int a1) (nab (by omega) (by omega)))) rfl q) ?_
    refine Wk.st (g' := (mkF m 62 #[.val (.int i0), .val (.int i1), .val (.int i2), .val (.int i3), .val (.int i4), .val (.int i5), .val (.int (1 : Int32)), .val (.int (0 : Int32)), .val (.int a1), .val (.int a2), .val (.int a3), .val (.ref b444), .unset, .unset, .unset, .unset, .unset] [(.int i1), (.double (FP.ddiv (FP.i2d a1) (4652218415073722368 : UInt64))), (.int (1 : Int32)), (.ref b444)])) (fun X t q => XS.iloadN X.here C.hx rfl (hb C.hby at_61) rfl q) ?_
    refine Wk.st (g' := (mkF m 63 #[.val (.int i0), .val (.int i1), .val (.int i2), .val (.int i3), .val (.int i4), .val (.int i5), .val (.int (1 : Int32)), .val (.int (0 : Int32)), .val (.int a1), .val (.int a2), .val (.int a3), .val (.ref b444), .unset, .unset, .unset, .unset, .unset] [(.double (FP.i2d i1)), (.double (FP.ddiv (FP.i2d a1) (4652218415073722368 : UInt64))), (.int (1 : Int32)), (.ref b444)])) (fun X t q => XS.i2dS X.here C.hx rfl (hb C.hby at_62) rfl rfl q) ?_
    refine Wk.callV C (x := (⟨"com/example/torino/torino/AbsorbingChain", "addExit", "(IDD)V"⟩ : MethodName)) (z := (⟨"com/example/torino/torino/AbsorbingChain", "addExit", "(IDD)V"⟩ : MethodName)) (K := "com/example/torino/torino/AbsorbingChain") (hw _ (List.mem_of_getElem? (i := 40) rfl)) (hw _ (List.mem_of_getElem? (i := 41) rfl)) (hw _ (List.mem_of_getElem? (i := 43) rfl)) (hw _ (List.mem_of_getElem? (i := 42) rfl)) (hw _ (List.mem_of_getElem? (i := 2) rfl)) (hw _ (List.mem_of_getElem? (i := 44) rfl)) (by decide) (fun s' hZ' => notFace_of_selects (args := #[]) (mvT hZ' (hw _ (List.mem_of_getElem? (i := 43) rfl)))) F673 (own_3_5 l Z a0 hw n0 h465 sz674 b444 n464_b36 n464_b79 n464_b127 n464_b180 n464_b238 n464_b301 n464_b369 n464_b442 n464_b520 n464_b603 n464_b882 n464_b691 n464_b985 n464_b784 n464_b1093 (FP.ddiv (FP.i2d a1) (4652218415073722368 : UInt64)) (FP.i2d i1) F673 F467 F468 F469 F470 F471 F472 F473 F474 F475 F476 F477 F478 F479 F480 F481 F482 F483 F484 F485 F486 F487 F488 F489 F490 F491 F492 F493 F494 F495 F496 F497 F498 F499 F500 F501 F502 F503 F504 F505 F506 F507 ne628 ne631 ne634 ne637 ne640 ne643 ne646 ne649 ne652 ne655 ne658 ne661 ne664 ne667 ne670 ne523 ne524 ne525 ne526 ne527 ne528 ne529 ne530 ne531 ne532 ne533 ne534 ne535 ne536 ne537 ne538 ne539 ne540 ne541 ne542 ne543 ne544 ne545 ne546 ne547 ne548 ne549 ne550 ne551 ne552 ne553 ne554 ne555 ne556 ne557 ne558 ne559 ne560 ne561 ne562 ne563 ne564 ne565 ne566 ne567 ne568 ne569 ne570 ne571 ne572 ne573 ne574 ne575 ne576 ne577 ne578 ne579 ne580 ne581 ne582 ne583 ne584 ne585 ne586 ne587 ne588 ne589 ne590 ne591 ne592 ne593 ne594 ne595 ne596 ne597 ne598 ne599 ne600 ne601 ne602 ne603 ne604 ne605 ne606 ne607 ne608 ne609 ne610 ne611 ne612 ne613 ne614 ne615 ne616 ne617 ne618 ne619 ne620 ne621 ne622 ne623 ne624 ne625 ne626 ne627 ge449 ge629 ge632 ge635 ge638 ge641 ge644 ge647 ge650 ge653 ge656 ge659 ge662 ge665 ge668 ge671 (DSc.nn (DSc.add DSc.zero (DSc.div (Jvm.FP.Core.i2d_int a1) (nab (by omega) (by omega))) (nab (by omega) (by omega)))) (DSc.nn (DSc.mul (DSc.div (Jvm.FP.Core.i2d_int a1) (nab (by omega) (by omega))) (Jvm.FP.Core.i2d_int i1) (nab (by omega) (by omega)))) (DSc.nn (DSc.add DSc.zero (DSc.mul (DSc.div (Jvm.FP.Core.i2d_int a1) (nab (by omega) (by omega))) (Jvm.FP.Core.i2d_int i1) (nab (by omega) (by omega))) (nab (by omega) (by omega))))) (w := 0) (by decide) (by decide) pd_1 rfl (rest := []) rfl rfl (Nat.le_of_eq rfl) (by decide) (by decide) at_63 ?_
    rintro _ h677 ⟨rfl, K678, F679, F680⟩
    show Wk _ p l e _ s m _ below meth c n0 _ h677 16 42 (mkF m 66 #[.val (.int i0), .val (.int i1), .val (.int i2), .val (.int i3), .val (.int i4), .val (.int i5), .val (.int (1 : Int32)), .val (.int (0 : Int32)), .val (.int a1), .val (.int a2), .val (.int a3), .val (.ref b444), .unset, .unset, .unset, .unset, .unset] [])
    have F681 : Exa Z h677 b444 "com/example/torino/torino/AbsorbingChain" := F673.keep K678
    have F682 : Fld Z h677 b444 "com/example/torino/torino/AbsorbingChain" "markedRow" "I" (.int (-1 : Int32)) := F467.keep K678 (nmS ne628 (nmS ne631 nm0))
    have F683 : Fld Z h677 b444 "com/example/torino/torino/AbsorbingChain" "size" "I" (.int (2 : Int32)) := F468.keep K678 (nmS ne628 (nmS ne631 nm0))
    have F684 : Exa Z h677 n464_b36 "[D" := F469.keep K678
    have F685 : Fld Z h677 b444 "com/example/torino/torino/AbsorbingChain" "exitProbabilities" "[D" (.ref n464_b36) := F471.keep K678 (nmS ne628 (nmS ne631 nm0))
    have F686 : Exa Z h677 n464_b79 "[D" := F472.keep K678
    have F687 : Fld Z h677 b444 "com/example/torino/torino/AbsorbingChain" "exitValues" "[D" (.ref n464_b79) := F474.keep K678 (nmS ne628 (nmS ne631 nm0))
    have F688 : Exa Z h677 n464_b127 "[[I" := F475.keep K678
    have F689 : Fld Z h677 b444 "com/example/torino/torino/AbsorbingChain" "nexts" "[[I" (.ref n464_b127) := F476.keep K678 (nmS ne628 (nmS ne631 nm0))
    have F690 : Exa Z h677 n464_b180 "[[D" := F477.keep K678
    have F691 : Fld Z h677 b444 "com/example/torino/torino/AbsorbingChain" "probabilities" "[[D" (.ref n464_b180) := F478.keep K678 (nmS ne628 (nmS ne631 nm0))
    have F692 : Exa Z h677 n464_b238 "[I" := F479.keep K678
    have F693 : Fa Z h677 n464_b238 .int 2 (fun _ => (.int (0 : Int32))) := F480.keep K678 (nmS (Ne.symm ne526) (nmS (Ne.symm ne539) nm0))
    have F694 : Fld Z h677 b444 "com/example/torino/torino/AbsorbingChain" "lengths" "[I" (.ref n464_b238) := F481.keep K678 (nmS ne628 (nmS ne631 nm0))
    have F695 : Exa Z h677 n464_b301 "[[I" := F482.keep K678
    have F696 : Fld Z h677 b444 "com/example/torino/torino/AbsorbingChain" "predecessors" "[[I" (.ref n464_b301) := F483.keep K678 (nmS ne628 (nmS ne631 nm0))
    have F697 : Exa Z h677 n464_b369 "[I" := F484.keep K678
    have F698 : Fa Z h677 n464_b369 .int 2 (fun _ => (.int (0 : Int32))) := F485.keep K678 (nmS (Ne.symm ne528) (nmS (Ne.symm ne541) nm0))
    have F699 : Fld Z h677 b444 "com/example/torino/torino/AbsorbingChain" "predecessorCounts" "[I" (.ref n464_b369) := F486.keep K678 (nmS ne628 (nmS ne631 nm0))
    have F700 : Exa Z h677 n464_b442 "[I" := F487.keep K678
    have F701 : Fa Z h677 n464_b442 .int 2 (fun _ => (.int (0 : Int32))) := F488.keep K678 (nmS (Ne.symm ne529) (nmS (Ne.symm ne542) nm0))
    have F702 : Fld Z h677 b444 "com/example/torino/torino/AbsorbingChain" "entryMarks" "[I" (.ref n464_b442) := F489.keep K678 (nmS ne628 (nmS ne631 nm0))
    have F703 : Exa Z h677 n464_b520 "[I" := F490.keep K678
    have F704 : Fa Z h677 n464_b520 .int 2 (fun _ => (.int (0 : Int32))) := F491.keep K678 (nmS (Ne.symm ne530) (nmS (Ne.symm ne543) nm0))
    have F705 : Fld Z h677 b444 "com/example/torino/torino/AbsorbingChain" "entries" "[I" (.ref n464_b520) := F492.keep K678 (nmS ne628 (nmS ne631 nm0))
    have F706 : Exa Z h677 n464_b603 "[I" := F493.keep K678
    have F707 : Fa Z h677 n464_b603 .int 2 (fun _ => (.int (0 : Int32))) := F494.keep K678 (nmS (Ne.symm ne531) (nmS (Ne.symm ne544) nm0))
    have F708 : Exa Z h677 n464_b691 "[D" := F495.keep K678
    have F709 : Fa Z h677 n464_b691 .double 2 (fun _ => (.double (0 : UInt64))) := F496.keep K678 (nmS (Ne.symm ne533) (nmS (Ne.symm ne546) nm0))
    have F710 : Exa Z h677 n464_b784 "[I" := F497.keep K678
    have F711 : Fa Z h677 n464_b784 .int 2 (fun _ => (.int (0 : Int32))) := F498.keep K678 (nmS (Ne.symm ne535) (nmS (Ne.symm ne548) nm0))
    have F712 : Exa Z h677 n464_b882 "[I" := F499.keep K678
    have F713 : Fa Z h677 n464_b882 .int 2 (fun _ => (.int (0 : Int32))) := F500.keep K678 (nmS (Ne.symm ne532) (nmS (Ne.symm ne545) nm0))
    have F714 : FaA Z h677 n464_b127 .int "[I" 2 (up (up (fun _ => .null) 0 (.ref n464_b603)) 1 (.ref n464_b882)) := F501.keep K678 (nmS (Ne.symm ne524) (nmS (Ne.symm ne537) nm0))
    have F715 : Exa Z h677 n464_b985 "[D" := F502.keep K678
    have F716 : Fa Z h677 n464_b985 .double 2 (fun _ => (.double (0 : UInt64))) := F503.keep K678 (nmS (Ne.symm ne534) (nmS (Ne.symm ne547) nm0))
    have F717 : FaA Z h677 n464_b180 .double "[D" 2 (up (up (fun _ => .null) 0 (.ref n464_b691)) 1 (.ref n464_b985)) := F504.keep K678 (nmS (Ne.symm ne525) (nmS (Ne.symm ne538) nm0))
    have F718 : Exa Z h677 n464_b1093 "[I" := F505.keep K678
    have F719 : Fa Z h677 n464_b1093 .int 2 (fun _ => (.int (0 : Int32))) := F506.keep K678 (nmS (Ne.symm ne536) (nmS (Ne.symm ne549) nm0))
    have F720 : FaA Z h677 n464_b301 .int "[I" 2 (up (up (fun _ => .null) 0 (.ref n464_b784)) 1 (.ref n464_b1093)) := F507.keep K678 (nmS (Ne.symm ne527) (nmS (Ne.symm ne540) nm0))
    have sz721 : n0 ≤ h677.size := Nat.le_trans sz674 K678.1
    have sy722 : h0.size ≤ h677.size := Nat.le_trans sy675 K678.1
    refine Wk.st (g' := (mkF m 68 #[.val (.int i0), .val (.int i1), .val (.int i2), .val (.int i3), .val (.int i4), .val (.int i5), .val (.int (1 : Int32)), .val (.int (0 : Int32)), .val (.int a1), .val (.int a2), .val (.int a3), .val (.ref b444), .unset, .unset, .unset, .unset, .unset] [(.ref b444)])) (fun X t q => XS.aload X.here C.hx rfl (hb C.hby at_66) rfl rfl q) ?_
    refine Wk.st (g' := (mkF m 70 #[.val (.int i0), .val (.int i1), .val (.int i2), .val (.int i3), .val (.int i4), .val (.int i5), .val (.int (1 : Int32)), .val (.int (0 : Int32)), .val (.int a1), .val (.int a2), .val (.int a3), .val (.ref b444), .unset, .unset, .unset, .unset, .unset] [(.int (0 : Int32)), (.ref b444)])) (fun X t q => XS.iload X.here C.hx rfl (hb C.hby at_68) rfl q) ?_
    refine Wk.st (g' := (mkF m 72 #[.val (.int i0), .val (.int i1), .val (.int i2), .val (.int i3), .val (.int i4), .val (.int i5), .val (.int (1 : Int32)), .val (.int (0 : Int32)), .val (.int a1), .val (.int a2), .val (.int a3), .val (.ref b444), .unset, .unset, .unset, .unset, .unset] [(.int a3), (.int (0 : Int32)), (.ref b444)])) (fun X t q => XS.iload X.here C.hx rfl (hb C.hby at_70) rfl q) ?_
    refine Wk.st (g' := (mkF m 73 #[.val (.int i0), .val (.int i1), .val (.int i2), .val (.int i3), .val (.int i4), .val (.int i5), .val (.int (1 : Int32)), .val (.int (0 : Int32)), .val (.int a1), .val (.int a2), .val (.int a3), .val (.ref b444), .unset, .unset, .unset, .unset, .unset] [(.double (FP.i2d a3)), (.int (0 : Int32)), (.ref b444)])) (fun X t q => XS.i2dS X.here C.hx rfl (hb C.hby at_72) rfl rfl q) ?_
    refine Wk.ldc2D C (hw _ (List.mem_of_getElem? (i := 39) rfl)) at_73 ?_
    show Wk _ p l e _ s m _ below meth c n0 _ h677 16 42 (mkF m 76 #[.val (.int i0), .val (.int i1), .val (.int i2), .val (.int i3), .val (.int i4), .val (.int i5), .val (.int (1 : Int32)), .val (.int (0 : Int32)), .val (.int a1), .val (.int a2), .val (.int a3), .val (.ref b444), .unset, .unset, .unset, .unset, .unset] [(.double (4652218415073722368 : UInt64)), (.double (FP.i2d a3)), (.int (0 : Int32)), (.ref b444)])
    refine Wk.st (g' := (mkF m 77 #[.val (.int i0), .val (.int i1), .val (.int i2), .val (.int i3), .val (.int i4), .val (.int i5), .val (.int (1 : Int32)), .val (.int (0 : Int32)), .val (.int a1), .val (.int a2), .val (.int a3), .val (.ref b444), .unset, .unset, .unset, .unset, .unset] [(.double (FP.ddiv (FP.i2d a3) (4652218415073722368 : UInt64))), (.int (0 : Int32)), (.ref b444)])) (fun X t q => XS.ddivS X.here C.hx rfl (hb C.hby at_76) rfl (DSc.nn (DSc.div (Jvm.FP.Core.i2d_int a3) (nab (by omega) (by omega)))) rfl q) ?_
    refine Wk.st (g' := (mkF m 79 #[.val (.int i0), .val (.int i1), .val (.int i2), .val (.int i3), .val (.int i4), .val (.int i5), .val (.int (1 : Int32)), .val (.int (0 : Int32)), .val (.int a1), .val (.int a2), .val (.int a3), .val (.ref b444), .unset, .unset, .unset, .unset, .unset] [(.int i4), (.double (FP.ddiv (FP.i2d a3) (4652218415073722368 : UInt64))), (.int (0 : Int32)), (.ref b444)])) (fun X t q => XS.iload X.here C.hx rfl (hb C.hby at_77) rfl q) ?_
    refine Wk.st (g' := (mkF m 80 #[.val (.int i0), .val (.int i1), .val (.int i2), .val (.int i3), .val (.int i4), .val (.int i5), .val (.int (1 : Int32)), .val (.int (0 : Int32)), .val (.int a1), .val (.int a2), .val (.int a3), .val (.ref b444), .unset, .unset, .unset, .unset, .unset] [(.double (FP.i2d i4)), (.double (FP.ddiv (FP.i2d a3) (4652218415073722368 : UInt64))), (.int (0 : Int32)), (.ref b444)])) (fun X t q => XS.i2dS X.here C.hx rfl (hb C.hby at_79) rfl rfl q) ?_
    refine Wk.callV C (x := (⟨"com/example/torino/torino/AbsorbingChain", "addExit", "(IDD)V"⟩ : MethodName)) (z := (⟨"com/example/torino/torino/AbsorbingChain", "addExit", "(IDD)V"⟩ : MethodName)) (K := "com/example/torino/torino/AbsorbingChain") (hw _ (List.mem_of_getElem? (i := 40) rfl)) (hw _ (List.mem_of_getElem? (i := 41) rfl)) (hw _ (List.mem_of_getElem? (i := 43) rfl)) (hw _ (List.mem_of_getElem? (i := 42) rfl)) (hw _ (List.mem_of_getElem? (i := 2) rfl)) (hw _ (List.mem_of_getElem? (i := 44) rfl)) (by decide) (fun s' hZ' => notFace_of_selects (args := #[]) (mvT hZ' (hw _ (List.mem_of_getElem? (i := 43) rfl)))) F681 (own_3_6 l Z a0 hw n0 h677 sz721 b444 n464_b36 n464_b79 n464_b127 n464_b180 n464_b238 n464_b301 n464_b369 n464_b442 n464_b520 n464_b603 n464_b882 n464_b691 n464_b985 n464_b784 n464_b1093 (FP.ddiv (FP.i2d a3) (4652218415073722368 : UInt64)) (FP.i2d i4) (FP.dadd (0 : UInt64) (FP.ddiv (FP.i2d a1) (4652218415073722368 : UInt64))) (FP.dadd (0 : UInt64) (FP.dmul (FP.ddiv (FP.i2d a1) (4652218415073722368 : UInt64)) (FP.i2d i1))) F681 F682 F683 F684 F685 F686 F687 F688 F689 F690 F691 F692 F693 F694 F695 F696 F697 F698 F699 F700 F701 F702 F703 F704 F705 F706 F707 F708 F709 F710 F711 F712 F713 F714 F715 F716 F717 F718 F719 F720 F679 F680 ne628 ne631 ne634 ne637 ne640 ne643 ne646 ne649 ne652 ne655 ne658 ne661 ne664 ne667 ne670 ne523 ne524 ne525 ne526 ne527 ne528 ne529 ne530 ne531 ne532 ne533 ne534 ne535 ne536 ne537 ne538 ne539 ne540 ne541 ne542 ne543 ne544 ne545 ne546 ne547 ne548 ne549 ne550 ne551 ne552 ne553 ne554 ne555 ne556 ne557 ne558 ne559 ne560 ne561 ne562 ne563 ne564 ne565 ne566 ne567 ne568 ne569 ne570 ne571 ne572 ne573 ne574 ne575 ne576 ne577 ne578 ne579 ne580 ne581 ne582 ne583 ne584 ne585 ne586 ne587 ne588 ne589 ne590 ne591 ne592 ne593 ne594 ne595 ne596 ne597 ne598 ne599 ne600 ne601 ne602 ne603 ne604 ne605 ne606 ne607 ne608 ne609 ne610 ne611 ne612 ne613 ne614 ne615 ne616 ne617 ne618 ne619 ne620 ne621 ne622 ne623 ne624 ne625 ne626 ne627 ge449 ge629 ge632 ge635 ge638 ge641 ge644 ge647 ge650 ge653 ge656 ge659 ge662 ge665 ge668 ge671 (DSc.nn (DSc.add DSc.zero (DSc.div (Jvm.FP.Core.i2d_int a3) (nab (by omega) (by omega))) (nab (by omega) (by omega)))) (DSc.nn (DSc.mul (DSc.div (Jvm.FP.Core.i2d_int a3) (nab (by omega) (by omega))) (Jvm.FP.Core.i2d_int i4) (nab (by omega) (by omega)))) (DSc.nn (DSc.add DSc.zero (DSc.mul (DSc.div (Jvm.FP.Core.i2d_int a3) (nab (by omega) (by omega))) (Jvm.FP.Core.i2d_int i4) (nab (by omega) (by omega))) (nab (by omega) (by omega))))) (w := 0) (by decide) (by decide) pd_1 rfl (rest := []) rfl rfl (Nat.le_of_eq rfl) (by decide) (by decide) at_80 ?_
    rintro _ h724 ⟨rfl, K725, F726, F727⟩
    show Wk _ p l e _ s m _ below meth c n0 _ h724 16 42 (mkF m 83 #[.val (.int i0), .val (.int i1), .val (.int i2), .val (.int i3), .val (.int i4), .val (.int i5), .val (.int (1 : Int32)), .val (.int (0 : Int32)), .val (.int a1), .val (.int a2), .val (.int a3), .val (.ref b444), .unset, .unset, .unset, .unset, .unset] [])
    have F728 : Exa Z h724 b444 "com/example/torino/torino/AbsorbingChain" := F681.keep K725
    have F729 : Fld Z h724 b444 "com/example/torino/torino/AbsorbingChain" "markedRow" "I" (.int (-1 : Int32)) := F682.keep K725 (nmS ne628 (nmS ne631 nm0))
    have F730 : Fld Z h724 b444 "com/example/torino/torino/AbsorbingChain" "size" "I" (.int (2 : Int32)) := F683.keep K725 (nmS ne628 (nmS ne631 nm0))
    have F731 : Exa Z h724 n464_b36 "[D" := F684.keep K725
    have F732 : Fld Z h724 b444 "com/example/torino/torino/AbsorbingChain" "exitProbabilities" "[D" (.ref n464_b36) := F685.keep K725 (nmS ne628 (nmS ne631 nm0))
    have F733 : Exa Z h724 n464_b79 "[D" := F686.keep K725
    have F734 : Fld Z h724 b444 "com/example/torino/torino/AbsorbingChain" "exitValues" "[D" (.ref n464_b79) := F687.keep K725 (nmS ne628 (nmS ne631 nm0))
    have F735 : Exa Z h724 n464_b127 "[[I" := F688.keep K725
    have F736 : Fld Z h724 b444 "com/example/torino/torino/AbsorbingChain" "nexts" "[[I" (.ref n464_b127) := F689.keep K725 (nmS ne628 (nmS ne631 nm0))
    have F737 : Exa Z h724 n464_b180 "[[D" := F690.keep K725
    have F738 : Fld Z h724 b444 "com/example/torino/torino/AbsorbingChain" "probabilities" "[[D" (.ref n464_b180) := F691.keep K725 (nmS ne628 (nmS ne631 nm0))
    have F739 : Exa Z h724 n464_b238 "[I" := F692.keep K725
    have F740 : Fa Z h724 n464_b238 .int 2 (fun _ => (.int (0 : Int32))) := F693.keep K725 (nmS (Ne.symm ne526) (nmS (Ne.symm ne539) nm0))
    have F741 : Fld Z h724 b444 "com/example/torino/torino/AbsorbingChain" "lengths" "[I" (.ref n464_b238) := F694.keep K725 (nmS ne628 (nmS ne631 nm0))
    have F742 : Exa Z h724 n464_b301 "[[I" := F695.keep K725
    have F743 : Fld Z h724 b444 "com/example/torino/torino/AbsorbingChain" "predecessors" "[[I" (.ref n464_b301) := F696.keep K725 (nmS ne628 (nmS ne631 nm0))
    have F744 : Exa Z h724 n464_b369 "[I" := F697.keep K725
    have F745 : Fa Z h724 n464_b369 .int 2 (fun _ => (.int (0 : Int32))) := F698.keep K725 (nmS (Ne.symm ne528) (nmS (Ne.symm ne541) nm0))
    have F746 : Fld Z h724 b444 "com/example/torino/torino/AbsorbingChain" "predecessorCounts" "[I" (.ref n464_b369) := F699.keep K725 (nmS ne628 (nmS ne631 nm0))
    have F747 : Exa Z h724 n464_b442 "[I" := F700.keep K725
    have F748 : Fa Z h724 n464_b442 .int 2 (fun _ => (.int (0 : Int32))) := F701.keep K725 (nmS (Ne.symm ne529) (nmS (Ne.symm ne542) nm0))
    have F749 : Fld Z h724 b444 "com/example/torino/torino/AbsorbingChain" "entryMarks" "[I" (.ref n464_b442) := F702.keep K725 (nmS ne628 (nmS ne631 nm0))
    have F750 : Exa Z h724 n464_b520 "[I" := F703.keep K725
    have F751 : Fa Z h724 n464_b520 .int 2 (fun _ => (.int (0 : Int32))) := F704.keep K725 (nmS (Ne.symm ne530) (nmS (Ne.symm ne543) nm0))
    have F752 : Fld Z h724 b444 "com/example/torino/torino/AbsorbingChain" "entries" "[I" (.ref n464_b520) := F705.keep K725 (nmS ne628 (nmS ne631 nm0))
    have F753 : Exa Z h724 n464_b603 "[I" := F706.keep K725
    have F754 : Fa Z h724 n464_b603 .int 2 (fun _ => (.int (0 : Int32))) := F707.keep K725 (nmS (Ne.symm ne531) (nmS (Ne.symm ne544) nm0))
    have F755 : Exa Z h724 n464_b691 "[D" := F708.keep K725
    have F756 : Fa Z h724 n464_b691 .double 2 (fun _ => (.double (0 : UInt64))) := F709.keep K725 (nmS (Ne.symm ne533) (nmS (Ne.symm ne546) nm0))
    have F757 : Exa Z h724 n464_b784 "[I" := F710.keep K725
    have F758 : Fa Z h724 n464_b784 .int 2 (fun _ => (.int (0 : Int32))) := F711.keep K725 (nmS (Ne.symm ne535) (nmS (Ne.symm ne548) nm0))
    have F759 : Exa Z h724 n464_b882 "[I" := F712.keep K725
    have F760 : Fa Z h724 n464_b882 .int 2 (fun _ => (.int (0 : Int32))) := F713.keep K725 (nmS (Ne.symm ne532) (nmS (Ne.symm ne545) nm0))
    have F761 : FaA Z h724 n464_b127 .int "[I" 2 (up (up (fun _ => .null) 0 (.ref n464_b603)) 1 (.ref n464_b882)) := F714.keep K725 (nmS (Ne.symm ne524) (nmS (Ne.symm ne537) nm0))
    have F762 : Exa Z h724 n464_b985 "[D" := F715.keep K725
    have F763 : Fa Z h724 n464_b985 .double 2 (fun _ => (.double (0 : UInt64))) := F716.keep K725 (nmS (Ne.symm ne534) (nmS (Ne.symm ne547) nm0))
    have F764 : FaA Z h724 n464_b180 .double "[D" 2 (up (up (fun _ => .null) 0 (.ref n464_b691)) 1 (.ref n464_b985)) := F717.keep K725 (nmS (Ne.symm ne525) (nmS (Ne.symm ne538) nm0))
    have F765 : Exa Z h724 n464_b1093 "[I" := F718.keep K725
    have F766 : Fa Z h724 n464_b1093 .int 2 (fun _ => (.int (0 : Int32))) := F719.keep K725 (nmS (Ne.symm ne536) (nmS (Ne.symm ne549) nm0))
    have F767 : FaA Z h724 n464_b301 .int "[I" 2 (up (up (fun _ => .null) 0 (.ref n464_b784)) 1 (.ref n464_b1093)) := F720.keep K725 (nmS (Ne.symm ne527) (nmS (Ne.symm ne540) nm0))
    have sz768 : n0 ≤ h724.size := Nat.le_trans sz721 K725.1
    have sy769 : h0.size ≤ h724.size := Nat.le_trans sy722 K725.1
    refine Wk.st (g' := (mkF m 85 #[.val (.int i0), .val (.int i1), .val (.int i2), .val (.int i3), .val (.int i4), .val (.int i5), .val (.int (1 : Int32)), .val (.int (0 : Int32)), .val (.int a1), .val (.int a2), .val (.int a3), .val (.ref b444), .unset, .unset, .unset, .unset, .unset] [(.ref b444)])) (fun X t q => XS.aload X.here C.hx rfl (hb C.hby at_83) rfl rfl q) ?_
    refine Wk.st (g' := (mkF m 87 #[.val (.int i0), .val (.int i1), .val (.int i2), .val (.int i3), .val (.int i4), .val (.int i5), .val (.int (1 : Int32)), .val (.int (0 : Int32)), .val (.int a1), .val (.int a2), .val (.int a3), .val (.ref b444), .unset, .unset, .unset, .unset, .unset] [(.int (1 : Int32)), (.ref b444)])) (fun X t q => XS.iload X.here C.hx rfl (hb C.hby at_85) rfl q) ?_
    refine Wk.st (g' := (mkF m 89 #[.val (.int i0), .val (.int i1), .val (.int i2), .val (.int i3), .val (.int i4), .val (.int i5), .val (.int (1 : Int32)), .val (.int (0 : Int32)), .val (.int a1), .val (.int a2), .val (.int a3), .val (.ref b444), .unset, .unset, .unset, .unset, .unset] [(.int a2), (.int (1 : Int32)), (.ref b444)])) (fun X t q => XS.iload X.here C.hx rfl (hb C.hby at_87) rfl q) ?_
    refine Wk.st (g' := (mkF m 90 #[.val (.int i0), .val (.int i1), .val (.int i2), .val (.int i3), .val (.int i4), .val (.int i5), .val (.int (1 : Int32)), .val (.int (0 : Int32)), .val (.int a1), .val (.int a2), .val (.int a3), .val (.ref b444), .unset, .unset, .unset, .unset, .unset] [(.double (FP.i2d a2)), (.int (1 : Int32)), (.ref b444)])) (fun X t q => XS.i2dS X.here C.hx rfl (hb C.hby at_89) rfl rfl q) ?_
    refine Wk.ldc2D C (hw _ (List.mem_of_getElem? (i := 39) rfl)) at_90 ?_
    show Wk _ p l e _ s m _ below meth c n0 _ h724 16 42 (mkF m 93 #[.val (.int i0), .val (.int i1), .val (.int i2), .val (.int i3), .val (.int i4), .val (.int i5), .val (.int (1 : Int32)), .val (.int (0 : Int32)), .val (.int a1), .val (.int a2), .val (.int a3), .val (.ref b444), .unset, .unset, .unset, .unset, .unset] [(.double (4652218415073722368 : UInt64)), (.double (FP.i2d a2)), (.int (1 : Int32)), (.ref b444)])
    refine Wk.st (g' := (mkF m 94 #[.val (.int i0), .val (.int i1), .val (.int i2), .val (.int i3), .val (.int i4), .val (.int i5), .val (.int (1 : Int32)), .val (.int (0 : Int32)), .val (.int a1), .val (.int a2), .val (.int a3), .val (.ref b444), .unset, .unset, .unset, .unset, .unset] [(.double (FP.ddiv (FP.i2d a2) (4652218415073722368 : UInt64))), (.int (1 : Int32)), (.ref b444)])) (fun X t q => XS.ddivS X.here C.hx rfl (hb C.hby at_93) rfl (DSc.nn (DSc.div (Jvm.FP.Core.i2d_int a2) (nab (by omega) (by omega)))) rfl q) ?_
    refine Wk.st (g' := (mkF m 95 #[.val (.int i0), .val (.int i1), .val (.int i2), .val (.int i3), .val (.int i4), .val (.int i5), .val (.int (1 : Int32)), .val (.int (0 : Int32)), .val (.int a1), .val (.int a2), .val (.int a3), .val (.ref b444), .unset, .unset, .unset, .unset, .unset] [(.int i3), (.double (FP.ddiv (FP.i2d a2) (4652218415073722368 : UInt64))), (.int (1 : Int32)), (.ref b444)])) (fun X t q => XS.iloadN X.here C.hx rfl (hb C.hby at_94) rfl q) ?_
    refine Wk.st (g' := (mkF m 96 #[.val (.int i0), .val (.int i1), .val (.int i2), .val (.int i3), .val (.int i4), .val (.int i5), .val (.int (1 : Int32)), .val (.int (0 : Int32)), .val (.int a1), .val (.int a2), .val (.int a3), .val (.ref b444), .unset, .unset, .unset, .unset, .unset] [(.double (FP.i2d i3)), (.double (FP.ddiv (FP.i2d a2) (4652218415073722368 : UInt64))), (.int (1 : Int32)), (.ref b444)])) (fun X t q => XS.i2dS X.here C.hx rfl (hb C.hby at_95) rfl rfl q) ?_
    refine Wk.callV C (x := (⟨"com/example/torino/torino/AbsorbingChain", "addExit", "(IDD)V"⟩ : MethodName)) (z := (⟨"com/example/torino/torino/AbsorbingChain", "addExit", "(IDD)V"⟩ : MethodName)) (K := "com/example/torino/torino/AbsorbingChain") (hw _ (List.mem_of_getElem? (i := 40) rfl)) (hw _ (List.mem_of_getElem? (i := 41) rfl)) (hw _ (List.mem_of_getElem? (i := 43) rfl)) (hw _ (List.mem_of_getElem? (i := 42) rfl)) (hw _ (List.mem_of_getElem? (i := 2) rfl)) (hw _ (List.mem_of_getElem? (i := 44) rfl)) (by decide) (fun s' hZ' => notFace_of_selects (args := #[]) (mvT hZ' (hw _ (List.mem_of_getElem? (i := 43) rfl)))) F728 (own_3_7 l Z a0 hw n0 h724 sz768 b444 n464_b36 n464_b79 n464_b127 n464_b180 n464_b238 n464_b301 n464_b369 n464_b442 n464_b520 n464_b603 n464_b882 n464_b691 n464_b985 n464_b784 n464_b1093 (FP.ddiv (FP.i2d a2) (4652218415073722368 : UInt64)) (FP.i2d i3) (FP.dadd (0 : UInt64) (FP.ddiv (FP.i2d a1) (4652218415073722368 : UInt64))) (FP.dadd (0 : UInt64) (FP.ddiv (FP.i2d a3) (4652218415073722368 : UInt64))) (FP.dadd (0 : UInt64) (FP.dmul (FP.ddiv (FP.i2d a1) (4652218415073722368 : UInt64)) (FP.i2d i1))) (FP.dadd (0 : UInt64) (FP.dmul (FP.ddiv (FP.i2d a3) (4652218415073722368 : UInt64)) (FP.i2d i4))) F728 F729 F730 F731 F732 F733 F734 F735 F736 F737 F738 F739 F740 F741 F742 F743 F744 F745 F746 F747 F748 F749 F750 F751 F752 F753 F754 F755 F756 F757 F758 F759 F760 F761 F762 F763 F764 F765 F766 F767 F726 F727 ne628 ne631 ne634 ne637 ne640 ne643 ne646 ne649 ne652 ne655 ne658 ne661 ne664 ne667 ne670 ne523 ne524 ne525 ne526 ne527 ne528 ne529 ne530 ne531 ne532 ne533 ne534 ne535 ne536 ne537 ne538 ne539 ne540 ne541 ne542 ne543 ne544 ne545 ne546 ne547 ne548 ne549 ne550 ne551 ne552 ne553 ne554 ne555 ne556 ne557 ne558 ne559 ne560 ne561 ne562 ne563 ne564 ne565 ne566 ne567 ne568 ne569 ne570 ne571 ne572 ne573 ne574 ne575 ne576 ne577 ne578 ne579 ne580 ne581 ne582 ne583 ne584 ne585 ne586 ne587 ne588 ne589 ne590 ne591 ne592 ne593 ne594 ne595 ne596 ne597 ne598 ne599 ne600 ne601 ne602 ne603 ne604 ne605 ne606 ne607 ne608 ne609 ne610 ne611 ne612 ne613 ne614 ne615 ne616 ne617 ne618 ne619 ne620 ne621 ne622 ne623 ne624 ne625 ne626 ne627 ge449 ge629 ge632 ge635 ge638 ge641 ge644 ge647 ge650 ge653 ge656 ge659 ge662 ge665 ge668 ge671 (DSc.nn (DSc.add (DSc.add DSc.zero (DSc.div (Jvm.FP.Core.i2d_int a1) (nab (by omega) (by omega))) (nab (by omega) (by omega))) (DSc.div (Jvm.FP.Core.i2d_int a2) (nab (by omega) (by omega))) (nab (by omega) (by omega)))) (DSc.nn (DSc.mul (DSc.div (Jvm.FP.Core.i2d_int a2) (nab (by omega) (by omega))) (Jvm.FP.Core.i2d_int i3) (nab (by omega) (by omega)))) (DSc.nn (DSc.add (DSc.add DSc.zero (DSc.mul (DSc.div (Jvm.FP.Core.i2d_int a1) (nab (by omega) (by omega))) (Jvm.FP.Core.i2d_int i1) (nab (by omega) (by omega))) (nab (by omega) (by omega))) (DSc.mul (DSc.div (Jvm.FP.Core.i2d_int a2) (nab (by omega) (by omega))) (Jvm.FP.Core.i2d_int i3) (nab (by omega) (by omega))) (nab (by omega) (by omega))))) (w := 0) (by decide) (by decide) pd_1 rfl (rest := []) rfl rfl (Nat.le_of_eq rfl) (by decide) (by decide) at_96 ?_
    rintro _ h771 ⟨rfl, K772, F773, F774⟩
    show Wk _ p l e _ s m _ below meth c n0 _ h771 16 42 (mkF m 99 #[.val (.int i0), .val (.int i1), .val (.int i2), .val (.int i3), .val (.int i4), .val (.int i5), .val (.int (1 : Int32)), .val (.int (0 : Int32)), .val (.int a1), .val (.int a2), .val (.int a3), .val (.ref b444), .unset, .unset, .unset, .unset, .unset] [])
    have F775 : Exa Z h771 b444 "com/example/torino/torino/AbsorbingChain" := F728.keep K772
    have F776 : Fld Z h771 b444 "com/example/torino/torino/AbsorbingChain" "markedRow" "I" (.int (-1 : Int32)) := F729.keep K772 (nmS ne628 (nmS ne631 nm0))
    have F777 : Fld Z h771 b444 "com/example/torino/torino/AbsorbingChain" "size" "I" (.int (2 : Int32)) := F730.keep K772 (nmS ne628 (nmS ne631 nm0))
    have F778 : Exa Z h771 n464_b36 "[D" := F731.keep K772
    have F779 : Fld Z h771 b444 "com/example/torino/torino/AbsorbingChain" "exitProbabilities" "[D" (.ref n464_b36) := F732.keep K772 (nmS ne628 (nmS ne631 nm0))
    have F780 : Exa Z h771 n464_b79 "[D" := F733.keep K772
    have F781 : Fld Z h771 b444 "com/example/torino/torino/AbsorbingChain" "exitValues" "[D" (.ref n464_b79) := F734.keep K772 (nmS ne628 (nmS ne631 nm0))
    have F782 : Exa Z h771 n464_b127 "[[I" := F735.keep K772
    have F783 : Fld Z h771 b444 "com/example/torino/torino/AbsorbingChain" "nexts" "[[I" (.ref n464_b127) := F736.keep K772 (nmS ne628 (nmS ne631 nm0))
    have F784 : Exa Z h771 n464_b180 "[[D" := F737.keep K772
    have F785 : Fld Z h771 b444 "com/example/torino/torino/AbsorbingChain" "probabilities" "[[D" (.ref n464_b180) := F738.keep K772 (nmS ne628 (nmS ne631 nm0))
    have F786 : Exa Z h771 n464_b238 "[I" := F739.keep K772
    have F787 : Fa Z h771 n464_b238 .int 2 (fun _ => (.int (0 : Int32))) := F740.keep K772 (nmS (Ne.symm ne526) (nmS (Ne.symm ne539) nm0))
    have F788 : Fld Z h771 b444 "com/example/torino/torino/AbsorbingChain" "lengths" "[I" (.ref n464_b238) := F741.keep K772 (nmS ne628 (nmS ne631 nm0))
    have F789 : Exa Z h771 n464_b301 "[[I" := F742.keep K772
    have F790 : Fld Z h771 b444 "com/example/torino/torino/AbsorbingChain" "predecessors" "[[I" (.ref n464_b301) := F743.keep K772 (nmS ne628 (nmS ne631 nm0))
    have F791 : Exa Z h771 n464_b369 "[I" := F744.keep K772
    have F792 : Fa Z h771 n464_b369 .int 2 (fun _ => (.int (0 : Int32))) := F745.keep K772 (nmS (Ne.symm ne528) (nmS (Ne.symm ne541) nm0))
    have F793 : Fld Z h771 b444 "com/example/torino/torino/AbsorbingChain" "predecessorCounts" "[I" (.ref n464_b369) := F746.keep K772 (nmS ne628 (nmS ne631 nm0))
    have F794 : Exa Z h771 n464_b442 "[I" := F747.keep K772
    have F795 : Fa Z h771 n464_b442 .int 2 (fun _ => (.int (0 : Int32))) := F748.keep K772 (nmS (Ne.symm ne529) (nmS (Ne.symm ne542) nm0))
    have F796 : Fld Z h771 b444 "com/example/torino/torino/AbsorbingChain" "entryMarks" "[I" (.ref n464_b442) := F749.keep K772 (nmS ne628 (nmS ne631 nm0))
    have F797 : Exa Z h771 n464_b520 "[I" := F750.keep K772
    have F798 : Fa Z h771 n464_b520 .int 2 (fun _ => (.int (0 : Int32))) := F751.keep K772 (nmS (Ne.symm ne530) (nmS (Ne.symm ne543) nm0))
    have F799 : Fld Z h771 b444 "com/example/torino/torino/AbsorbingChain" "entries" "[I" (.ref n464_b520) := F752.keep K772 (nmS ne628 (nmS ne631 nm0))
    have F800 : Exa Z h771 n464_b603 "[I" := F753.keep K772
    have F801 : Fa Z h771 n464_b603 .int 2 (fun _ => (.int (0 : Int32))) := F754.keep K772 (nmS (Ne.symm ne531) (nmS (Ne.symm ne544) nm0))
    have F802 : Exa Z h771 n464_b691 "[D" := F755.keep K772
    have F803 : Fa Z h771 n464_b691 .double 2 (fun _ => (.double (0 : UInt64))) := F756.keep K772 (nmS (Ne.symm ne533) (nmS (Ne.symm ne546) nm0))
    have F804 : Exa Z h771 n464_b784 "[I" := F757.keep K772
    have F805 : Fa Z h771 n464_b784 .int 2 (fun _ => (.int (0 : Int32))) := F758.keep K772 (nmS (Ne.symm ne535) (nmS (Ne.symm ne548) nm0))
    have F806 : Exa Z h771 n464_b882 "[I" := F759.keep K772
    have F807 : Fa Z h771 n464_b882 .int 2 (fun _ => (.int (0 : Int32))) := F760.keep K772 (nmS (Ne.symm ne532) (nmS (Ne.symm ne545) nm0))
    have F808 : FaA Z h771 n464_b127 .int "[I" 2 (up (up (fun _ => .null) 0 (.ref n464_b603)) 1 (.ref n464_b882)) := F761.keep K772 (nmS (Ne.symm ne524) (nmS (Ne.symm ne537) nm0))
    have F809 : Exa Z h771 n464_b985 "[D" := F762.keep K772
    have F810 : Fa Z h771 n464_b985 .double 2 (fun _ => (.double (0 : UInt64))) := F763.keep K772 (nmS (Ne.symm ne534) (nmS (Ne.symm ne547) nm0))
    have F811 : FaA Z h771 n464_b180 .double "[D" 2 (up (up (fun _ => .null) 0 (.ref n464_b691)) 1 (.ref n464_b985)) := F764.keep K772 (nmS (Ne.symm ne525) (nmS (Ne.symm ne538) nm0))
    have F812 : Exa Z h771 n464_b1093 "[I" := F765.keep K772
    have F813 : Fa Z h771 n464_b1093 .int 2 (fun _ => (.int (0 : Int32))) := F766.keep K772 (nmS (Ne.symm ne536) (nmS (Ne.symm ne549) nm0))
    have F814 : FaA Z h771 n464_b301 .int "[I" 2 (up (up (fun _ => .null) 0 (.ref n464_b784)) 1 (.ref n464_b1093)) := F767.keep K772 (nmS (Ne.symm ne527) (nmS (Ne.symm ne540) nm0))
    have sz815 : n0 ≤ h771.size := Nat.le_trans sz768 K772.1
    have sy816 : h0.size ≤ h771.size := Nat.le_trans sy769 K772.1
    refine Wk.st (g' := (mkF m 101 #[.val (.int i0), .val (.int i1), .val (.int i2), .val (.int i3), .val (.int i4), .val (.int i5), .val (.int (1 : Int32)), .val (.int (0 : Int32)), .val (.int a1), .val (.int a2), .val (.int a3), .val (.ref b444), .unset, .unset, .unset, .unset, .unset] [(.ref b444)])) (fun X t q => XS.aload X.here C.hx rfl (hb C.hby at_99) rfl rfl q) ?_
    refine Wk.ldc2J C (hw _ (List.mem_of_getElem? (i := 45) rfl)) at_101 ?_
    show Wk _ p l e _ s m _ below meth c n0 _ h771 16 42 (mkF m 104 #[.val (.int i0), .val (.int i1), .val (.int i2), .val (.int i3), .val (.int i4), .val (.int i5), .val (.int (1 : Int32)), .val (.int (0 : Int32)), .val (.int a1), .val (.int a2), .val (.int a3), .val (.ref b444), .unset, .unset, .unset, .unset, .unset] [(.long (1000 : Int64)), (.ref b444)])
    refine Wk.callV C (x := (⟨"com/example/torino/torino/AbsorbingChain", "solve", "(J)[D"⟩ : MethodName)) (z := (⟨"com/example/torino/torino/AbsorbingChain", "solve", "(J)[D"⟩ : MethodName)) (K := "com/example/torino/torino/AbsorbingChain") (hw _ (List.mem_of_getElem? (i := 46) rfl)) (hw _ (List.mem_of_getElem? (i := 47) rfl)) (hw _ (List.mem_of_getElem? (i := 49) rfl)) (hw _ (List.mem_of_getElem? (i := 48) rfl)) (hw _ (List.mem_of_getElem? (i := 2) rfl)) (hw _ (List.mem_of_getElem? (i := 50) rfl)) (by decide) (fun s' hZ' => notFace_of_selects (args := #[]) (mvT hZ' (hw _ (List.mem_of_getElem? (i := 49) rfl)))) F775 (own_4_8 l Z a0 hw n0 h771 sz815 b444 n464_b36 n464_b79 n464_b127 n464_b180 n464_b238 n464_b301 n464_b369 n464_b442 n464_b520 n464_b603 n464_b882 n464_b691 n464_b985 n464_b784 n464_b1093 (FP.dadd (FP.dadd (0 : UInt64) (FP.ddiv (FP.i2d a1) (4652218415073722368 : UInt64))) (FP.ddiv (FP.i2d a2) (4652218415073722368 : UInt64))) (FP.dadd (0 : UInt64) (FP.ddiv (FP.i2d a3) (4652218415073722368 : UInt64))) (FP.dadd (FP.dadd (0 : UInt64) (FP.dmul (FP.ddiv (FP.i2d a1) (4652218415073722368 : UInt64)) (FP.i2d i1))) (FP.dmul (FP.ddiv (FP.i2d a2) (4652218415073722368 : UInt64)) (FP.i2d i3))) (FP.dadd (0 : UInt64) (FP.dmul (FP.ddiv (FP.i2d a3) (4652218415073722368 : UInt64)) (FP.i2d i4))) F775 F776 F777 F778 F779 F780 F781 F782 F783 F784 F785 F786 F787 F788 F789 F790 F791 F792 F793 F794 F795 F796 F797 F798 F799 F800 F801 F802 F803 F804 F805 F806 F807 F808 F809 F810 F811 F812 F813 F814 F773 F774 ne628 ne631 ne634 ne637 ne640 ne643 ne646 ne649 ne652 ne655 ne658 ne661 ne664 ne667 ne670 ne523 ne524 ne525 ne526 ne527 ne528 ne529 ne530 ne531 ne532 ne533 ne534 ne535 ne536 ne537 ne538 ne539 ne540 ne541 ne542 ne543 ne544 ne545 ne546 ne547 ne548 ne549 ne550 ne551 ne552 ne553 ne554 ne555 ne556 ne557 ne558 ne559 ne560 ne561 ne562 ne563 ne564 ne565 ne566 ne567 ne568 ne569 ne570 ne571 ne572 ne573 ne574 ne575 ne576 ne577 ne578 ne579 ne580 ne581 ne582 ne583 ne584 ne585 ne586 ne587 ne588 ne589 ne590 ne591 ne592 ne593 ne594 ne595 ne596 ne597 ne598 ne599 ne600 ne601 ne602 ne603 ne604 ne605 ne606 ne607 ne608 ne609 ne610 ne611 ne612 ne613 ne614 ne615 ne616 ne617 ne618 ne619 ne620 ne621 ne622 ne623 ne624 ne625 ne626 ne627 ge449 ge629 ge632 ge635 ge638 ge641 ge644 ge647 ge650 ge653 ge656 ge659 ge662 ge665 ge668 ge671 (DQ.nn (DQ.sc (DSc.add (DSc.add DSc.zero (DSc.mul (DSc.div (Jvm.FP.Core.i2d_int a1) (nab (by omega) (by omega))) (Jvm.FP.Core.i2d_int i1) (nab (by omega) (by omega))) (nab (by omega) (by omega))) (DSc.mul (DSc.div (Jvm.FP.Core.i2d_int a2) (nab (by omega) (by omega))) (Jvm.FP.Core.i2d_int i3) (nab (by omega) (by omega))) (nab (by omega) (by omega))) (DSc.add (DSc.add DSc.zero (DSc.div (Jvm.FP.Core.i2d_int a1) (nab (by omega) (by omega))) (nab (by omega) (by omega))) (DSc.div (Jvm.FP.Core.i2d_int a2) (nab (by omega) (by omega))) (nab (by omega) (by omega))) (by omega))) (DQ.nn (DQ.sc (DSc.add DSc.zero (DSc.mul (DSc.div (Jvm.FP.Core.i2d_int a3) (nab (by omega) (by omega))) (Jvm.FP.Core.i2d_int i4) (nab (by omega) (by omega))) (nab (by omega) (by omega))) (DSc.add DSc.zero (DSc.div (Jvm.FP.Core.i2d_int a3) (nab (by omega) (by omega))) (nab (by omega) (by omega))) (by omega)))) (w := 0) (by decide) (by decide) pd_2 rfl (rest := []) rfl rfl (Nat.le_of_eq rfl) (by decide) (by decide) at_104 ?_
    rintro _ h818 ⟨n817_b169, rfl, K819, gn822, F820, F821⟩
    show Wk _ p l e _ s m _ below meth c n0 _ h818 18 46 (mkF m 107 #[.val (.int i0), .val (.int i1), .val (.int i2), .val (.int i3), .val (.int i4), .val (.int i5), .val (.int (1 : Int32)), .val (.int (0 : Int32)), .val (.int a1), .val (.int a2), .val (.int a3), .val (.ref b444), .unset, .unset, .unset, .unset, .unset] [(.ref n817_b169)])
    have ne823 : b444 ≠ n817_b169 := Nat.ne_of_lt (Nat.lt_of_lt_of_le F775.lt gn822)
    have ne824 : n464_b36 ≠ n817_b169 := Nat.ne_of_lt (Nat.lt_of_lt_of_le F778.lt gn822)
    have ne825 : n464_b79 ≠ n817_b169 := Nat.ne_of_lt (Nat.lt_of_lt_of_le F780.lt gn822)
    have ne826 : n464_b127 ≠ n817_b169 := Nat.ne_of_lt (Nat.lt_of_lt_of_le F782.lt gn822)
    have ne827 : n464_b180 ≠ n817_b169 := Nat.ne_of_lt (Nat.lt_of_lt_of_le F784.lt gn822)
    have ne828 : n464_b238 ≠ n817_b169 := Nat.ne_of_lt (Nat.lt_of_lt_of_le F786.lt gn822)
    have ne829 : n464_b301 ≠ n817_b169 := Nat.ne_of_lt (Nat.lt_of_lt_of_le F789.lt gn822)
    have ne830 : n464_b369 ≠ n817_b169 := Nat.ne_of_lt (Nat.lt_of_lt_of_le F791.lt gn822)
    have ne831 : n464_b442 ≠ n817_b169 := Nat.ne_of_lt (Nat.lt_of_lt_of_le F794.lt gn822)
    have ne832 : n464_b520 ≠ n817_b169 := Nat.ne_of_lt (Nat.lt_of_lt_of_le F797.lt gn822)
    have ne833 : n464_b603 ≠ n817_b169 := Nat.ne_of_lt (Nat.lt_of_lt_of_le F800.lt gn822)
    have ne834 : n464_b691 ≠ n817_b169 := Nat.ne_of_lt (Nat.lt_of_lt_of_le F802.lt gn822)
    have ne835 : n464_b784 ≠ n817_b169 := Nat.ne_of_lt (Nat.lt_of_lt_of_le F804.lt gn822)
    have ne836 : n464_b882 ≠ n817_b169 := Nat.ne_of_lt (Nat.lt_of_lt_of_le F806.lt gn822)
    have ne837 : n464_b985 ≠ n817_b169 := Nat.ne_of_lt (Nat.lt_of_lt_of_le F809.lt gn822)
    have ne838 : n464_b1093 ≠ n817_b169 := Nat.ne_of_lt (Nat.lt_of_lt_of_le F812.lt gn822)
    have ge839 : n0 ≤ n817_b169 := Nat.le_trans sz815 gn822
    have gz840 : h0.size ≤ n817_b169 := Nat.le_trans sy816 gn822
    have F841 : Exa Z h818 b444 "com/example/torino/torino/AbsorbingChain" := F775.keep K819
    have F842 : Fld Z h818 b444 "com/example/torino/torino/AbsorbingChain" "markedRow" "I" (.int (-1 : Int32)) := F776.keep K819 nm0
    have F843 : Fld Z h818 b444 "com/example/torino/torino/AbsorbingChain" "size" "I" (.int (2 : Int32)) := F777.keep K819 nm0
    have F844 : Exa Z h818 n464_b36 "[D" := F778.keep K819
    have F845 : Fld Z h818 b444 "com/example/torino/torino/AbsorbingChain" "exitProbabilities" "[D" (.ref n464_b36) := F779.keep K819 nm0
    have F846 : Exa Z h818 n464_b79 "[D" := F780.keep K819
    have F847 : Fld Z h818 b444 "com/example/torino/torino/AbsorbingChain" "exitValues" "[D" (.ref n464_b79) := F781.keep K819 nm0
    have F848 : Exa Z h818 n464_b127 "[[I" := F782.keep K819
    have F849 : Fld Z h818 b444 "com/example/torino/torino/AbsorbingChain" "nexts" "[[I" (.ref n464_b127) := F783.keep K819 nm0
    have F850 : Exa Z h818 n464_b180 "[[D" := F784.keep K819
    have F851 : Fld Z h818 b444 "com/example/torino/torino/AbsorbingChain" "probabilities" "[[D" (.ref n464_b180) := F785.keep K819 nm0
    have F852 : Exa Z h818 n464_b238 "[I" := F786.keep K819
    have F853 : Fa Z h818 n464_b238 .int 2 (fun _ => (.int (0 : Int32))) := F787.keep K819 nm0
    have F854 : Fld Z h818 b444 "com/example/torino/torino/AbsorbingChain" "lengths" "[I" (.ref n464_b238) := F788.keep K819 nm0
    have F855 : Exa Z h818 n464_b301 "[[I" := F789.keep K819
    have F856 : Fld Z h818 b444 "com/example/torino/torino/AbsorbingChain" "predecessors" "[[I" (.ref n464_b301) := F790.keep K819 nm0
    have F857 : Exa Z h818 n464_b369 "[I" := F791.keep K819
    have F858 : Fa Z h818 n464_b369 .int 2 (fun _ => (.int (0 : Int32))) := F792.keep K819 nm0
    have F859 : Fld Z h818 b444 "com/example/torino/torino/AbsorbingChain" "predecessorCounts" "[I" (.ref n464_b369) := F793.keep K819 nm0
    have F860 : Exa Z h818 n464_b442 "[I" := F794.keep K819
    have F861 : Fa Z h818 n464_b442 .int 2 (fun _ => (.int (0 : Int32))) := F795.keep K819 nm0
    have F862 : Fld Z h818 b444 "com/example/torino/torino/AbsorbingChain" "entryMarks" "[I" (.ref n464_b442) := F796.keep K819 nm0
    have F863 : Exa Z h818 n464_b520 "[I" := F797.keep K819
    have F864 : Fa Z h818 n464_b520 .int 2 (fun _ => (.int (0 : Int32))) := F798.keep K819 nm0
    have F865 : Fld Z h818 b444 "com/example/torino/torino/AbsorbingChain" "entries" "[I" (.ref n464_b520) := F799.keep K819 nm0
    have F866 : Exa Z h818 n464_b603 "[I" := F800.keep K819
    have F867 : Fa Z h818 n464_b603 .int 2 (fun _ => (.int (0 : Int32))) := F801.keep K819 nm0
    have F868 : Exa Z h818 n464_b691 "[D" := F802.keep K819
    have F869 : Fa Z h818 n464_b691 .double 2 (fun _ => (.double (0 : UInt64))) := F803.keep K819 nm0
    have F870 : Exa Z h818 n464_b784 "[I" := F804.keep K819
    have F871 : Fa Z h818 n464_b784 .int 2 (fun _ => (.int (0 : Int32))) := F805.keep K819 nm0
    have F872 : Exa Z h818 n464_b882 "[I" := F806.keep K819
    have F873 : Fa Z h818 n464_b882 .int 2 (fun _ => (.int (0 : Int32))) := F807.keep K819 nm0
    have F874 : FaA Z h818 n464_b127 .int "[I" 2 (up (up (fun _ => .null) 0 (.ref n464_b603)) 1 (.ref n464_b882)) := F808.keep K819 nm0
    have F875 : Exa Z h818 n464_b985 "[D" := F809.keep K819
    have F876 : Fa Z h818 n464_b985 .double 2 (fun _ => (.double (0 : UInt64))) := F810.keep K819 nm0
    have F877 : FaA Z h818 n464_b180 .double "[D" 2 (up (up (fun _ => .null) 0 (.ref n464_b691)) 1 (.ref n464_b985)) := F811.keep K819 nm0
    have F878 : Exa Z h818 n464_b1093 "[I" := F812.keep K819
    have F879 : Fa Z h818 n464_b1093 .int 2 (fun _ => (.int (0 : Int32))) := F813.keep K819 nm0
    have F880 : FaA Z h818 n464_b301 .int "[I" 2 (up (up (fun _ => .null) 0 (.ref n464_b784)) 1 (.ref n464_b1093)) := F814.keep K819 nm0
    have F881 : Fa Z h818 n464_b36 .double 2 (up (up (fun _ => (.double (0 : UInt64))) 0 (.double (FP.dadd (0 : UInt64) (FP.ddiv (FP.i2d a3) (4652218415073722368 : UInt64))))) 1 (.double (FP.dadd (FP.dadd (0 : UInt64) (FP.ddiv (FP.i2d a1) (4652218415073722368 : UInt64))) (FP.ddiv (FP.i2d a2) (4652218415073722368 : UInt64))))) := F773.keep K819 nm0
    have F882 : Fa Z h818 n464_b79 .double 2 (up (up (fun _ => (.double (0 : UInt64))) 0 (.double (FP.dadd (0 : UInt64) (FP.dmul (FP.ddiv (FP.i2d a3) (4652218415073722368 : UInt64)) (FP.i2d i4))))) 1 (.double (FP.dadd (FP.dadd (0 : UInt64) (FP.dmul (FP.ddiv (FP.i2d a1) (4652218415073722368 : UInt64)) (FP.i2d i1))) (FP.dmul (FP.ddiv (FP.i2d a2) (4652218415073722368 : UInt64)) (FP.i2d i3))))) := F774.keep K819 nm0
    have sz883 : n0 ≤ h818.size := Nat.le_trans sz815 K819.1
    have sy884 : h0.size ≤ h818.size := Nat.le_trans sy816 K819.1
    refine Wk.st (g' := (mkF m 109 #[.val (.int i0), .val (.int i1), .val (.int i2), .val (.int i3), .val (.int i4), .val (.int i5), .val (.int (1 : Int32)), .val (.int (0 : Int32)), .val (.int a1), .val (.int a2), .val (.int a3), .val (.ref b444), .val (.ref n817_b169), .unset, .unset, .unset, .unset] [])) (fun X t q => XS.astore X.here C.hx rfl (hb C.hby at_107) rfl rfl (l' := #[.val (.int i0), .val (.int i1), .val (.int i2), .val (.int i3), .val (.int i4), .val (.int i5), .val (.int (1 : Int32)), .val (.int (0 : Int32)), .val (.int a1), .val (.int a2), .val (.int a3), .val (.ref b444), .val (.ref n817_b169), .unset, .unset, .unset, .unset]) rfl q) ?_
    refine Wk.st (g' := (mkF m 111 #[.val (.int i0), .val (.int i1), .val (.int i2), .val (.int i3), .val (.int i4), .val (.int i5), .val (.int (1 : Int32)), .val (.int (0 : Int32)), .val (.int a1), .val (.int a2), .val (.int a3), .val (.ref b444), .val (.ref n817_b169), .unset, .unset, .unset, .unset] [(.ref n817_b169)])) (fun X t q => XS.aload X.here C.hx rfl (hb C.hby at_109) rfl rfl q) ?_
    refine Wk.st (g' := (mkF m 114 #[.val (.int i0), .val (.int i1), .val (.int i2), .val (.int i3), .val (.int i4), .val (.int i5), .val (.int (1 : Int32)), .val (.int (0 : Int32)), .val (.int a1), .val (.int a2), .val (.int a3), .val (.ref b444), .val (.ref n817_b169), .unset, .unset, .unset, .unset] [])) (fun X t q => XS.ifnullNo X.here C.hx rfl (hb C.hby at_111) rfl q) ?_
    refine Wk.st (g' := (mkF m 116 #[.val (.int i0), .val (.int i1), .val (.int i2), .val (.int i3), .val (.int i4), .val (.int i5), .val (.int (1 : Int32)), .val (.int (0 : Int32)), .val (.int a1), .val (.int a2), .val (.int a3), .val (.ref b444), .val (.ref n817_b169), .unset, .unset, .unset, .unset] [(.ref n817_b169)])) (fun X t q => XS.aload X.here C.hx rfl (hb C.hby at_114) rfl rfl q) ?_
    refine Wk.fLen C F821 (z := (2 : Int32)) (by decide) at_116 ?_
    show Wk _ p l e _ s m _ below meth c n0 _ h818 18 46 (mkF m 117 #[.val (.int i0), .val (.int i1), .val (.int i2), .val (.int i3), .val (.int i4), .val (.int i5), .val (.int (1 : Int32)), .val (.int (0 : Int32)), .val (.int a1), .val (.int a2), .val (.int a3), .val (.ref b444), .val (.ref n817_b169), .unset, .unset, .unset, .unset] [(.int (2 : Int32))])
    refine Wk.st (g' := (mkF m 118 #[.val (.int i0), .val (.int i1), .val (.int i2), .val (.int i3), .val (.int i4), .val (.int i5), .val (.int (1 : Int32)), .val (.int (0 : Int32)), .val (.int a1), .val (.int a2), .val (.int a3), .val (.ref b444), .val (.ref n817_b169), .unset, .unset, .unset, .unset] [(.int (2 : Int32)), (.int (2 : Int32))])) (fun X t q => XS.iconst X.here C.hx rfl (hb C.hby at_117) q) ?_
    refine Wk.st (g' := (mkF m 123 #[.val (.int i0), .val (.int i1), .val (.int i2), .val (.int i3), .val (.int i4), .val (.int i5), .val (.int (1 : Int32)), .val (.int (0 : Int32)), .val (.int a1), .val (.int a2), .val (.int a3), .val (.ref b444), .val (.ref n817_b169), .unset, .unset, .unset, .unset] [])) (fun X t q => XS.icmpYes X.here C.hx rfl (pc0 := 118) (pc' := 123) rfl (hb C.hby at_118) rfl (XT.ii_eq_t (by decide)) (by decide) (by decide) q) ?_
    refine Wk.st (g' := (mkF m 125 #[.val (.int i0), .val (.int i1), .val (.int i2), .val (.int i3), .val (.int i4), .val (.int i5), .val (.int (1 : Int32)), .val (.int (0 : Int32)), .val (.int a1), .val (.int a2), .val (.int a3), .val (.ref b444), .val (.ref n817_b169), .unset, .unset, .unset, .unset] [(.int a1)])) (fun X t q => XS.iload X.here C.hx rfl (hb C.hby at_123) rfl q) ?_
    refine Wk.st (g' := (mkF m 126 #[.val (.int i0), .val (.int i1), .val (.int i2), .val (.int i3), .val (.int i4), .val (.int i5), .val (.int (1 : Int32)), .val (.int (0 : Int32)), .val (.int a1), .val (.int a2), .val (.int a3), .val (.ref b444), .val (.ref n817_b169), .unset, .unset, .unset, .unset] [(.long (a1.toInt64))])) (fun X t q => XS.i2l X.here C.hx rfl (hb C.hby at_125) rfl q) ?_
    refine Wk.st (g' := (mkF m 127 #[.val (.int i0), .val (.int i1), .val (.int i2), .val (.int i3), .val (.int i4), .val (.int i5), .val (.int (1 : Int32)), .val (.int (0 : Int32)), .val (.int a1), .val (.int a2), .val (.int a3), .val (.ref b444), .val (.ref n817_b169), .unset, .unset, .unset, .unset] [(.int i1), (.long (a1.toInt64))])) (fun X t q => XS.iloadN X.here C.hx rfl (hb C.hby at_126) rfl q) ?_
    refine Wk.st (g' := (mkF m 128 #[.val (.int i0), .val (.int i1), .val (.int i2), .val (.int i3), .val (.int i4), .val (.int i5), .val (.int (1 : Int32)), .val (.int (0 : Int32)), .val (.int a1), .val (.int a2), .val (.int a3), .val (.ref b444), .val (.ref n817_b169), .unset, .unset, .unset, .unset] [(.long (i1.toInt64)), (.long (a1.toInt64))])) (fun X t q => XS.i2l X.here C.hx rfl (hb C.hby at_127) rfl q) ?_
    refine Wk.st (g' := (mkF m 129 #[.val (.int i0), .val (.int i1), .val (.int i2), .val (.int i3), .val (.int i4), .val (.int i5), .val (.int (1 : Int32)), .val (.int (0 : Int32)), .val (.int a1), .val (.int a2), .val (.int a3), .val (.ref b444), .val (.ref n817_b169), .unset, .unset, .unset, .unset] [(.long ((a1.toInt64) * (i1.toInt64)))])) (fun X t q => XS.lmul X.here C.hx rfl (hb C.hby at_128) rfl q) ?_
    refine Wk.st (g' := (mkF m 131 #[.val (.int i0), .val (.int i1), .val (.int i2), .val (.int i3), .val (.int i4), .val (.int i5), .val (.int (1 : Int32)), .val (.int (0 : Int32)), .val (.int a1), .val (.int a2), .val (.int a3), .val (.ref b444), .val (.ref n817_b169), .unset, .unset, .unset, .unset] [(.int a2), (.long ((a1.toInt64) * (i1.toInt64)))])) (fun X t q => XS.iload X.here C.hx rfl (hb C.hby at_129) rfl q) ?_
    refine Wk.st (g' := (mkF m 132 #[.val (.int i0), .val (.int i1), .val (.int i2), .val (.int i3), .val (.int i4), .val (.int i5), .val (.int (1 : Int32)), .val (.int (0 : Int32)), .val (.int a1), .val (.int a2), .val (.int a3), .val (.ref b444), .val (.ref n817_b169), .unset, .unset, .unset, .unset] [(.long (a2.toInt64)), (.long ((a1.toInt64) * (i1.toInt64)))])) (fun X t q => XS.i2l X.here C.hx rfl (hb C.hby at_131) rfl q) ?_
    refine Wk.st (g' := (mkF m 133 #[.val (.int i0), .val (.int i1), .val (.int i2), .val (.int i3), .val (.int i4), .val (.int i5), .val (.int (1 : Int32)), .val (.int (0 : Int32)), .val (.int a1), .val (.int a2), .val (.int a3), .val (.ref b444), .val (.ref n817_b169), .unset, .unset, .unset, .unset] [(.int i3), (.long (a2.toInt64)), (.long ((a1.toInt64) * (i1.toInt64)))])) (fun X t q => XS.iloadN X.here C.hx rfl (hb C.hby at_132) rfl q) ?_
    refine Wk.st (g' := (mkF m 134 #[.val (.int i0), .val (.int i1), .val (.int i2), .val (.int i3), .val (.int i4), .val (.int i5), .val (.int (1 : Int32)), .val (.int (0 : Int32)), .val (.int a1), .val (.int a2), .val (.int a3), .val (.ref b444), .val (.ref n817_b169), .unset, .unset, .unset, .unset] [(.long (i3.toInt64)), (.long (a2.toInt64)), (.long ((a1.toInt64) * (i1.toInt64)))])) (fun X t q => XS.i2l X.here C.hx rfl (hb C.hby at_133) rfl q) ?_
    refine Wk.st (g' := (mkF m 135 #[.val (.int i0), .val (.int i1), .val (.int i2), .val (.int i3), .val (.int i4), .val (.int i5), .val (.int (1 : Int32)), .val (.int (0 : Int32)), .val (.int a1), .val (.int a2), .val (.int a3), .val (.ref b444), .val (.ref n817_b169), .unset, .unset, .unset, .unset] [(.long ((a2.toInt64) * (i3.toInt64))), (.long ((a1.toInt64) * (i1.toInt64)))])) (fun X t q => XS.lmul X.here C.hx rfl (hb C.hby at_134) rfl q) ?_
    refine Wk.st (g' := (mkF m 136 #[.val (.int i0), .val (.int i1), .val (.int i2), .val (.int i3), .val (.int i4), .val (.int i5), .val (.int (1 : Int32)), .val (.int (0 : Int32)), .val (.int a1), .val (.int a2), .val (.int a3), .val (.ref b444), .val (.ref n817_b169), .unset, .unset, .unset, .unset] [(.long (((a1.toInt64) * (i1.toInt64)) + ((a2.toInt64) * (i3.toInt64))))])) (fun X t q => XS.ladd X.here C.hx rfl (hb C.hby at_135) rfl q) ?_
    refine Wk.st (g' := (mkF m 138 #[.val (.int i0), .val (.int i1), .val (.int i2), .val (.int i3), .val (.int i4), .val (.int i5), .val (.int (1 : Int32)), .val (.int (0 : Int32)), .val (.int a1), .val (.int a2), .val (.int a3), .val (.ref b444), .val (.ref n817_b169), .val (.long (((a1.toInt64) * (i1.toInt64)) + ((a2.toInt64) * (i3.toInt64)))), .second, .unset, .unset] [])) (fun X t q => XS.lstore X.here C.hx rfl (hb C.hby at_136) rfl (l' := #[.val (.int i0), .val (.int i1), .val (.int i2), .val (.int i3), .val (.int i4), .val (.int i5), .val (.int (1 : Int32)), .val (.int (0 : Int32)), .val (.int a1), .val (.int a2), .val (.int a3), .val (.ref b444), .val (.ref n817_b169), .val (.long (((a1.toInt64) * (i1.toInt64)) + ((a2.toInt64) * (i3.toInt64)))), .second, .unset, .unset]) rfl q) ?_
    refine Wk.st (g' := (mkF m 140 #[.val (.int i0), .val (.int i1), .val (.int i2), .val (.int i3), .val (.int i4), .val (.int i5), .val (.int (1 : Int32)), .val (.int (0 : Int32)), .val (.int a1), .val (.int a2), .val (.int a3), .val (.ref b444), .val (.ref n817_b169), .val (.long (((a1.toInt64) * (i1.toInt64)) + ((a2.toInt64) * (i3.toInt64)))), .second, .unset, .unset] [(.long (((a1.toInt64) * (i1.toInt64)) + ((a2.toInt64) * (i3.toInt64))))])) (fun X t q => XS.lload X.here C.hx rfl (hb C.hby at_138) rfl q) ?_
    refine Wk.st (g' := (mkF m 141 #[.val (.int i0), .val (.int i1), .val (.int i2), .val (.int i3), .val (.int i4), .val (.int i5), .val (.int (1 : Int32)), .val (.int (0 : Int32)), .val (.int a1), .val (.int a2), .val (.int a3), .val (.ref b444), .val (.ref n817_b169), .val (.long (((a1.toInt64) * (i1.toInt64)) + ((a2.toInt64) * (i3.toInt64)))), .second, .unset, .unset] [(.double (FP.l2d (((a1.toInt64) * (i1.toInt64)) + ((a2.toInt64) * (i3.toInt64)))))])) (fun X t q => XS.l2dS X.here C.hx rfl (hb C.hby at_140) rfl rfl q) ?_
    refine Wk.st (g' := (mkF m 143 #[.val (.int i0), .val (.int i1), .val (.int i2), .val (.int i3), .val (.int i4), .val (.int i5), .val (.int (1 : Int32)), .val (.int (0 : Int32)), .val (.int a1), .val (.int a2), .val (.int a3), .val (.ref b444), .val (.ref n817_b169), .val (.long (((a1.toInt64) * (i1.toInt64)) + ((a2.toInt64) * (i3.toInt64)))), .second, .unset, .unset] [(.int a1), (.double (FP.l2d (((a1.toInt64) * (i1.toInt64)) + ((a2.toInt64) * (i3.toInt64)))))])) (fun X t q => XS.iload X.here C.hx rfl (hb C.hby at_141) rfl q) ?_
    refine Wk.st (g' := (mkF m 145 #[.val (.int i0), .val (.int i1), .val (.int i2), .val (.int i3), .val (.int i4), .val (.int i5), .val (.int (1 : Int32)), .val (.int (0 : Int32)), .val (.int a1), .val (.int a2), .val (.int a3), .val (.ref b444), .val (.ref n817_b169), .val (.long (((a1.toInt64) * (i1.toInt64)) + ((a2.toInt64) * (i3.toInt64)))), .second, .unset, .unset] [(.int a2), (.int a1), (.double (FP.l2d (((a1.toInt64) * (i1.toInt64)) + ((a2.toInt64) * (i3.toInt64)))))])) (fun X t q => XS.iload X.here C.hx rfl (hb C.hby at_143) rfl q) ?_
    refine Wk.st (g' := (mkF m 146 #[.val (.int i0), .val (.int i1), .val (.int i2), .val (.int i3), .val (.int i4), .val (.int i5), .val (.int (1 : Int32)), .val (.int (0 : Int32)), .val (.int a1), .val (.int a2), .val (.int a3), .val (.ref b444), .val (.ref n817_b169), .val (.long (((a1.toInt64) * (i1.toInt64)) + ((a2.toInt64) * (i3.toInt64)))), .second, .unset, .unset] [(.int (a1 + a2)), (.double (FP.l2d (((a1.toInt64) * (i1.toInt64)) + ((a2.toInt64) * (i3.toInt64)))))])) (fun X t q => XS.iadd X.here C.hx rfl (hb C.hby at_145) rfl q) ?_
    refine Wk.st (g' := (mkF m 147 #[.val (.int i0), .val (.int i1), .val (.int i2), .val (.int i3), .val (.int i4), .val (.int i5), .val (.int (1 : Int32)), .val (.int (0 : Int32)), .val (.int a1), .val (.int a2), .val (.int a3), .val (.ref b444), .val (.ref n817_b169), .val (.long (((a1.toInt64) * (i1.toInt64)) + ((a2.toInt64) * (i3.toInt64)))), .second, .unset, .unset] [(.double (FP.i2d (a1 + a2))), (.double (FP.l2d (((a1.toInt64) * (i1.toInt64)) + ((a2.toInt64) * (i3.toInt64)))))])) (fun X t q => XS.i2dS X.here C.hx rfl (hb C.hby at_146) rfl rfl q) ?_
    refine Wk.st (g' := (mkF m 148 #[.val (.int i0), .val (.int i1), .val (.int i2), .val (.int i3), .val (.int i4), .val (.int i5), .val (.int (1 : Int32)), .val (.int (0 : Int32)), .val (.int a1), .val (.int a2), .val (.int a3), .val (.ref b444), .val (.ref n817_b169), .val (.long (((a1.toInt64) * (i1.toInt64)) + ((a2.toInt64) * (i3.toInt64)))), .second, .unset, .unset] [(.double (FP.ddiv (FP.l2d (((a1.toInt64) * (i1.toInt64)) + ((a2.toInt64) * (i3.toInt64)))) (FP.i2d (a1 + a2))))])) (fun X t q => XS.ddivS X.here C.hx rfl (hb C.hby at_147) rfl (DQ.nn (DQ.whole (Jvm.FP.Core.l2d_int (a := (((a1.toInt64) * (i1.toInt64)) + ((a2.toInt64) * (i3.toInt64)))) (by rw [num_is ra1' ra2']; exact (nab (by omega) (by omega)))) (Jvm.FP.Core.i2d_int (a1 + a2)) (by rw [den_is ra1' ra2']; omega))) rfl q) ?_
    refine Wk.st (g' := (mkF m 150 #[.val (.int i0), .val (.int i1), .val (.int i2), .val (.int i3), .val (.int i4), .val (.int i5), .val (.int (1 : Int32)), .val (.int (0 : Int32)), .val (.int a1), .val (.int a2), .val (.int a3), .val (.ref b444), .val (.ref n817_b169), .val (.long (((a1.toInt64) * (i1.toInt64)) + ((a2.toInt64) * (i3.toInt64)))), .second, .val (.double (FP.ddiv (FP.l2d (((a1.toInt64) * (i1.toInt64)) + ((a2.toInt64) * (i3.toInt64)))) (FP.i2d (a1 + a2)))), .second] [])) (fun X t q => XS.dstore X.here C.hx rfl (hb C.hby at_148) rfl (l' := #[.val (.int i0), .val (.int i1), .val (.int i2), .val (.int i3), .val (.int i4), .val (.int i5), .val (.int (1 : Int32)), .val (.int (0 : Int32)), .val (.int a1), .val (.int a2), .val (.int a3), .val (.ref b444), .val (.ref n817_b169), .val (.long (((a1.toInt64) * (i1.toInt64)) + ((a2.toInt64) * (i3.toInt64)))), .second, .val (.double (FP.ddiv (FP.l2d (((a1.toInt64) * (i1.toInt64)) + ((a2.toInt64) * (i3.toInt64)))) (FP.i2d (a1 + a2)))), .second]) rfl q) ?_
    refine Wk.st (g' := (mkF m 152 #[.val (.int i0), .val (.int i1), .val (.int i2), .val (.int i3), .val (.int i4), .val (.int i5), .val (.int (1 : Int32)), .val (.int (0 : Int32)), .val (.int a1), .val (.int a2), .val (.int a3), .val (.ref b444), .val (.ref n817_b169), .val (.long (((a1.toInt64) * (i1.toInt64)) + ((a2.toInt64) * (i3.toInt64)))), .second, .val (.double (FP.ddiv (FP.l2d (((a1.toInt64) * (i1.toInt64)) + ((a2.toInt64) * (i3.toInt64)))) (FP.i2d (a1 + a2)))), .second] [(.ref n817_b169)])) (fun X t q => XS.aload X.here C.hx rfl (hb C.hby at_150) rfl rfl q) ?_
    refine Wk.st (g' := (mkF m 154 #[.val (.int i0), .val (.int i1), .val (.int i2), .val (.int i3), .val (.int i4), .val (.int i5), .val (.int (1 : Int32)), .val (.int (0 : Int32)), .val (.int a1), .val (.int a2), .val (.int a3), .val (.ref b444), .val (.ref n817_b169), .val (.long (((a1.toInt64) * (i1.toInt64)) + ((a2.toInt64) * (i3.toInt64)))), .second, .val (.double (FP.ddiv (FP.l2d (((a1.toInt64) * (i1.toInt64)) + ((a2.toInt64) * (i3.toInt64)))) (FP.i2d (a1 + a2)))), .second] [(.int (1 : Int32)), (.ref n817_b169)])) (fun X t q => XS.iload X.here C.hx rfl (hb C.hby at_152) rfl q) ?_
    refine Wk.fLdD C F821 (i := 1) (by decide) (by decide) (by decide) (v := (.double (FP.ddiv (FP.dadd (FP.dadd (0 : UInt64) (FP.dmul (FP.ddiv (FP.i2d a1) (4652218415073722368 : UInt64)) (FP.i2d i1))) (FP.dmul (FP.ddiv (FP.i2d a2) (4652218415073722368 : UInt64)) (FP.i2d i3))) (FP.dadd (FP.dadd (0 : UInt64) (FP.ddiv (FP.i2d a1) (4652218415073722368 : UInt64))) (FP.ddiv (FP.i2d a2) (4652218415073722368 : UInt64)))))) (by simp [up]) at_154 ?_
    show Wk _ p l e _ s m _ below meth c n0 _ h818 18 46 (mkF m 155 #[.val (.int i0), .val (.int i1), .val (.int i2), .val (.int i3), .val (.int i4), .val (.int i5), .val (.int (1 : Int32)), .val (.int (0 : Int32)), .val (.int a1), .val (.int a2), .val (.int a3), .val (.ref b444), .val (.ref n817_b169), .val (.long (((a1.toInt64) * (i1.toInt64)) + ((a2.toInt64) * (i3.toInt64)))), .second, .val (.double (FP.ddiv (FP.l2d (((a1.toInt64) * (i1.toInt64)) + ((a2.toInt64) * (i3.toInt64)))) (FP.i2d (a1 + a2)))), .second] [(.double (FP.ddiv (FP.dadd (FP.dadd (0 : UInt64) (FP.dmul (FP.ddiv (FP.i2d a1) (4652218415073722368 : UInt64)) (FP.i2d i1))) (FP.dmul (FP.ddiv (FP.i2d a2) (4652218415073722368 : UInt64)) (FP.i2d i3))) (FP.dadd (FP.dadd (0 : UInt64) (FP.ddiv (FP.i2d a1) (4652218415073722368 : UInt64))) (FP.ddiv (FP.i2d a2) (4652218415073722368 : UInt64)))))])
    refine Wk.st (g' := (mkF m 157 #[.val (.int i0), .val (.int i1), .val (.int i2), .val (.int i3), .val (.int i4), .val (.int i5), .val (.int (1 : Int32)), .val (.int (0 : Int32)), .val (.int a1), .val (.int a2), .val (.int a3), .val (.ref b444), .val (.ref n817_b169), .val (.long (((a1.toInt64) * (i1.toInt64)) + ((a2.toInt64) * (i3.toInt64)))), .second, .val (.double (FP.ddiv (FP.l2d (((a1.toInt64) * (i1.toInt64)) + ((a2.toInt64) * (i3.toInt64)))) (FP.i2d (a1 + a2)))), .second] [(.double (FP.ddiv (FP.l2d (((a1.toInt64) * (i1.toInt64)) + ((a2.toInt64) * (i3.toInt64)))) (FP.i2d (a1 + a2)))), (.double (FP.ddiv (FP.dadd (FP.dadd (0 : UInt64) (FP.dmul (FP.ddiv (FP.i2d a1) (4652218415073722368 : UInt64)) (FP.i2d i1))) (FP.dmul (FP.ddiv (FP.i2d a2) (4652218415073722368 : UInt64)) (FP.i2d i3))) (FP.dadd (FP.dadd (0 : UInt64) (FP.ddiv (FP.i2d a1) (4652218415073722368 : UInt64))) (FP.ddiv (FP.i2d a2) (4652218415073722368 : UInt64)))))])) (fun X t q => XS.dload X.here C.hx rfl (hb C.hby at_155) rfl q) ?_
    refine Wk.st (g' := (mkF m 158 #[.val (.int i0), .val (.int i1), .val (.int i2), .val (.int i3), .val (.int i4), .val (.int i5), .val (.int (1 : Int32)), .val (.int (0 : Int32)), .val (.int a1), .val (.int a2), .val (.int a3), .val (.ref b444), .val (.ref n817_b169), .val (.long (((a1.toInt64) * (i1.toInt64)) + ((a2.toInt64) * (i3.toInt64)))), .second, .val (.double (FP.ddiv (FP.l2d (((a1.toInt64) * (i1.toInt64)) + ((a2.toInt64) * (i3.toInt64)))) (FP.i2d (a1 + a2)))), .second] [(.int (0 : Int32))])) (fun X t q => XS.dcmpS X.here C.hx rfl (hb C.hby at_157) rfl (DQ.cmp (i := a1.toInt * i1.toInt + a2.toInt * i3.toInt) (j := a1.toInt + a2.toInt) (DQ.cast (DQ.sc (DSc.add (DSc.add DSc.zero (DSc.mul (DSc.div (Jvm.FP.Core.i2d_int a1) (nab (by omega) (by omega))) (Jvm.FP.Core.i2d_int i1) (nab (by omega) (by omega))) (nab (by omega) (by omega))) (DSc.mul (DSc.div (Jvm.FP.Core.i2d_int a2) (nab (by omega) (by omega))) (Jvm.FP.Core.i2d_int i3) (nab (by omega) (by omega))) (nab (by omega) (by omega))) (DSc.add (DSc.add DSc.zero (DSc.div (Jvm.FP.Core.i2d_int a1) (nab (by omega) (by omega))) (nab (by omega) (by omega))) (DSc.div (Jvm.FP.Core.i2d_int a2) (nab (by omega) (by omega))) (nab (by omega) (by omega))) (by omega)) (by omega) (by omega)) (DQ.cast (DQ.whole (Jvm.FP.Core.l2d_int (a := (((a1.toInt64) * (i1.toInt64)) + ((a2.toInt64) * (i3.toInt64)))) (by rw [num_is ra1' ra2']; exact (nab (by omega) (by omega)))) (Jvm.FP.Core.i2d_int (a1 + a2)) (by rw [den_is ra1' ra2']; omega)) (num_is ra1' ra2') (den_is ra1' ra2'))) q) ?_
    refine Wk.st (g' := (mkF m 161 #[.val (.int i0), .val (.int i1), .val (.int i2), .val (.int i3), .val (.int i4), .val (.int i5), .val (.int (1 : Int32)), .val (.int (0 : Int32)), .val (.int a1), .val (.int a2), .val (.int a3), .val (.ref b444), .val (.ref n817_b169), .val (.long (((a1.toInt64) * (i1.toInt64)) + ((a2.toInt64) * (i3.toInt64)))), .second, .val (.double (FP.ddiv (FP.l2d (((a1.toInt64) * (i1.toInt64)) + ((a2.toInt64) * (i3.toInt64)))) (FP.i2d (a1 + a2)))), .second] [])) (fun X t q => XS.ifNo X.here C.hx rfl (hb C.hby at_158) rfl (XT.i0_ne_f (by decide)) q) ?_
    refine Wk.st (g' := (mkF m 163 #[.val (.int i0), .val (.int i1), .val (.int i2), .val (.int i3), .val (.int i4), .val (.int i5), .val (.int (1 : Int32)), .val (.int (0 : Int32)), .val (.int a1), .val (.int a2), .val (.int a3), .val (.ref b444), .val (.ref n817_b169), .val (.long (((a1.toInt64) * (i1.toInt64)) + ((a2.toInt64) * (i3.toInt64)))), .second, .val (.double (FP.ddiv (FP.l2d (((a1.toInt64) * (i1.toInt64)) + ((a2.toInt64) * (i3.toInt64)))) (FP.i2d (a1 + a2)))), .second] [(.ref n817_b169)])) (fun X t q => XS.aload X.here C.hx rfl (hb C.hby at_161) rfl rfl q) ?_
    refine Wk.st (g' := (mkF m 165 #[.val (.int i0), .val (.int i1), .val (.int i2), .val (.int i3), .val (.int i4), .val (.int i5), .val (.int (1 : Int32)), .val (.int (0 : Int32)), .val (.int a1), .val (.int a2), .val (.int a3), .val (.ref b444), .val (.ref n817_b169), .val (.long (((a1.toInt64) * (i1.toInt64)) + ((a2.toInt64) * (i3.toInt64)))), .second, .val (.double (FP.ddiv (FP.l2d (((a1.toInt64) * (i1.toInt64)) + ((a2.toInt64) * (i3.toInt64)))) (FP.i2d (a1 + a2)))), .second] [(.int (0 : Int32)), (.ref n817_b169)])) (fun X t q => XS.iload X.here C.hx rfl (hb C.hby at_163) rfl q) ?_
    refine Wk.fLdD C F821 (i := 0) (by decide) (by decide) (by decide) (v := (.double (FP.ddiv (FP.dadd (0 : UInt64) (FP.dmul (FP.ddiv (FP.i2d a3) (4652218415073722368 : UInt64)) (FP.i2d i4))) (FP.dadd (0 : UInt64) (FP.ddiv (FP.i2d a3) (4652218415073722368 : UInt64)))))) (by simp [up]) at_165 ?_
    show Wk _ p l e _ s m _ below meth c n0 _ h818 18 46 (mkF m 166 #[.val (.int i0), .val (.int i1), .val (.int i2), .val (.int i3), .val (.int i4), .val (.int i5), .val (.int (1 : Int32)), .val (.int (0 : Int32)), .val (.int a1), .val (.int a2), .val (.int a3), .val (.ref b444), .val (.ref n817_b169), .val (.long (((a1.toInt64) * (i1.toInt64)) + ((a2.toInt64) * (i3.toInt64)))), .second, .val (.double (FP.ddiv (FP.l2d (((a1.toInt64) * (i1.toInt64)) + ((a2.toInt64) * (i3.toInt64)))) (FP.i2d (a1 + a2)))), .second] [(.double (FP.ddiv (FP.dadd (0 : UInt64) (FP.dmul (FP.ddiv (FP.i2d a3) (4652218415073722368 : UInt64)) (FP.i2d i4))) (FP.dadd (0 : UInt64) (FP.ddiv (FP.i2d a3) (4652218415073722368 : UInt64)))))])
    refine Wk.st (g' := (mkF m 168 #[.val (.int i0), .val (.int i1), .val (.int i2), .val (.int i3), .val (.int i4), .val (.int i5), .val (.int (1 : Int32)), .val (.int (0 : Int32)), .val (.int a1), .val (.int a2), .val (.int a3), .val (.ref b444), .val (.ref n817_b169), .val (.long (((a1.toInt64) * (i1.toInt64)) + ((a2.toInt64) * (i3.toInt64)))), .second, .val (.double (FP.ddiv (FP.l2d (((a1.toInt64) * (i1.toInt64)) + ((a2.toInt64) * (i3.toInt64)))) (FP.i2d (a1 + a2)))), .second] [(.int i4), (.double (FP.ddiv (FP.dadd (0 : UInt64) (FP.dmul (FP.ddiv (FP.i2d a3) (4652218415073722368 : UInt64)) (FP.i2d i4))) (FP.dadd (0 : UInt64) (FP.ddiv (FP.i2d a3) (4652218415073722368 : UInt64)))))])) (fun X t q => XS.iload X.here C.hx rfl (hb C.hby at_166) rfl q) ?_
    refine Wk.st (g' := (mkF m 169 #[.val (.int i0), .val (.int i1), .val (.int i2), .val (.int i3), .val (.int i4), .val (.int i5), .val (.int (1 : Int32)), .val (.int (0 : Int32)), .val (.int a1), .val (.int a2), .val (.int a3), .val (.ref b444), .val (.ref n817_b169), .val (.long (((a1.toInt64) * (i1.toInt64)) + ((a2.toInt64) * (i3.toInt64)))), .second, .val (.double (FP.ddiv (FP.l2d (((a1.toInt64) * (i1.toInt64)) + ((a2.toInt64) * (i3.toInt64)))) (FP.i2d (a1 + a2)))), .second] [(.double (FP.i2d i4)), (.double (FP.ddiv (FP.dadd (0 : UInt64) (FP.dmul (FP.ddiv (FP.i2d a3) (4652218415073722368 : UInt64)) (FP.i2d i4))) (FP.dadd (0 : UInt64) (FP.ddiv (FP.i2d a3) (4652218415073722368 : UInt64)))))])) (fun X t q => XS.i2dS X.here C.hx rfl (hb C.hby at_168) rfl rfl q) ?_
    refine Wk.st (g' := (mkF m 170 #[.val (.int i0), .val (.int i1), .val (.int i2), .val (.int i3), .val (.int i4), .val (.int i5), .val (.int (1 : Int32)), .val (.int (0 : Int32)), .val (.int a1), .val (.int a2), .val (.int a3), .val (.ref b444), .val (.ref n817_b169), .val (.long (((a1.toInt64) * (i1.toInt64)) + ((a2.toInt64) * (i3.toInt64)))), .second, .val (.double (FP.ddiv (FP.l2d (((a1.toInt64) * (i1.toInt64)) + ((a2.toInt64) * (i3.toInt64)))) (FP.i2d (a1 + a2)))), .second] [(.int (0 : Int32))])) (fun X t q => XS.dcmpS X.here C.hx rfl (hb C.hby at_169) rfl (DQ.cmp (i := i4.toInt) (j := 1) (Qn.int (j := a3.toInt) (DQ.cast (DQ.sc (DSc.add DSc.zero (DSc.mul (DSc.div (Jvm.FP.Core.i2d_int a3) (nab (by omega) (by omega))) (Jvm.FP.Core.i2d_int i4) (nab (by omega) (by omega))) (nab (by omega) (by omega))) (DSc.add DSc.zero (DSc.div (Jvm.FP.Core.i2d_int a3) (nab (by omega) (by omega))) (nab (by omega) (by omega))) (by omega)) (by omega) (by omega)) (by omega)) (Qn.i2d i4)) q) ?_
    refine Wk.st (g' := (mkF m 173 #[.val (.int i0), .val (.int i1), .val (.int i2), .val (.int i3), .val (.int i4), .val (.int i5), .val (.int (1 : Int32)), .val (.int (0 : Int32)), .val (.int a1), .val (.int a2), .val (.int a3), .val (.ref b444), .val (.ref n817_b169), .val (.long (((a1.toInt64) * (i1.toInt64)) + ((a2.toInt64) * (i3.toInt64)))), .second, .val (.double (FP.ddiv (FP.l2d (((a1.toInt64) * (i1.toInt64)) + ((a2.toInt64) * (i3.toInt64)))) (FP.i2d (a1 + a2)))), .second] [])) (fun X t q => XS.ifNo X.here C.hx rfl (hb C.hby at_170) rfl (XT.i0_ne_f (by decide)) q) ?_
    refine Wk.st (g' := (mkF m 174 #[.val (.int i0), .val (.int i1), .val (.int i2), .val (.int i3), .val (.int i4), .val (.int i5), .val (.int (1 : Int32)), .val (.int (0 : Int32)), .val (.int a1), .val (.int a2), .val (.int a3), .val (.ref b444), .val (.ref n817_b169), .val (.long (((a1.toInt64) * (i1.toInt64)) + ((a2.toInt64) * (i3.toInt64)))), .second, .val (.double (FP.ddiv (FP.l2d (((a1.toInt64) * (i1.toInt64)) + ((a2.toInt64) * (i3.toInt64)))) (FP.i2d (a1 + a2)))), .second] [(.int (1 : Int32))])) (fun X t q => XS.iconst X.here C.hx rfl (hb C.hby at_173) q) ?_
    refine Wk.st (g' := (mkF m 178 #[.val (.int i0), .val (.int i1), .val (.int i2), .val (.int i3), .val (.int i4), .val (.int i5), .val (.int (1 : Int32)), .val (.int (0 : Int32)), .val (.int a1), .val (.int a2), .val (.int a3), .val (.ref b444), .val (.ref n817_b169), .val (.long (((a1.toInt64) * (i1.toInt64)) + ((a2.toInt64) * (i3.toInt64)))), .second, .val (.double (FP.ddiv (FP.l2d (((a1.toInt64) * (i1.toInt64)) + ((a2.toInt64) * (i3.toInt64)))) (FP.i2d (a1 + a2)))), .second] [(.int (1 : Int32))])) (fun X t q => XS.goto X.here C.hx rfl (pc0 := 174) (pc' := 178) rfl (hb C.hby at_174) (by decide) (by decide) q) ?_
    exact Wk.retV C (t := .boolean) rfl rfl (Or.inl ⟨rfl, by simp, _, rfl⟩) at_178 (by decide) (by decide) ⟨rfl, trivial⟩
set_option maxRecDepth 65536 in
set_option maxHeartbeats 40000000 in
theorem comes_1 {Post : Tables → Env → Array Value → State → Outcome → State → Prop} (hpost : ∀ tb e args s v u, (limb_1_1.after args s (.returned v) u = true ∧ limb_1_2.after args s (.returned v) u = true ∧ True) → FrameEnd s (.returned v) u (Jvm.fieldLocs frame_1_writes args s ++ Jvm.arrayLocs frame_1_arrays args s ++ Jvm.staticLocs frame_1_statics s) 48 192 → Post tb e args s (.returned v) u) :
    ArmFor flags0 classFile x code maxLocals ret World_1 tables_1 room_1 Calls_1 rest_1 Pre_1 Post := by
  intro l hfl _ _ p e ha hc hk s m args below hf hA hF happ hP
  obtain ⟨hcalls, hrest, hpre⟩ := hP
  obtain ⟨-, -, -, hnamed, -, -, -, hat⟩ := (Spec.applies_iff hf).mp happ
  obtain ⟨hg, hn⟩ := and_e (Cond.before_iff.mp (show (Jvm.Cond.and given_1 narrow_1).before args s = true from hpre))
  obtain ⟨hcount, g0⟩ := and_e hg
  obtain ⟨v0, v1, v2, v3, v4, v5, rfl⟩ : ∃ v0 v1 v2 v3 v4 v5 : Value, args = #[v0, v1, v2, v3, v4, v5] := by
    have hs : args.size = 6 := by simpa [Cond.value, given_1] using hcount
    obtain ⟨L⟩ := args
    match L, hs with
    | [v0, v1, v2, v3, v4, v5], _ => exact ⟨v0, v1, v2, v3, v4, v5, rfl⟩
  have hw := fun d (hd : d ∈ tables_1) => atoms_spec (ws := Jvm.Cond.code x code maxLocals ret :: tables_1) hat d (List.mem_cons_of_mem _ hd)
  have hfit : Fit s := fun {y c} hc i hi => by
    obtain ⟨ha, rfl⟩ := Array.getElem?_eq_some_iff.mp hc
    have q := List.all_eq_true.mp ((Array.all_eq_true_iff_forall_mem.mp hF) _ (Array.getElem_mem ha)) i (List.mem_range.mpr hi)
    simpa [Array.getElem?_eq_getElem hi] using q
  obtain ⟨e0, g1⟩ := and_e g0
  obtain ⟨i0, f0⟩ := is_v e0
  obtain rfl : v0 = (.int i0) := Option.some.inj f0
  obtain ⟨e1, g2⟩ := and_e g1
  obtain ⟨i1, f1⟩ := is_v e1
  obtain rfl : v1 = (.int i1) := Option.some.inj f1
  obtain ⟨e2, g3⟩ := and_e g2
  obtain ⟨i2, f2⟩ := is_v e2
  obtain rfl : v2 = (.int i2) := Option.some.inj f2
  obtain ⟨e3, g4⟩ := and_e g3
  obtain ⟨i3, f3⟩ := is_v e3
  obtain rfl : v3 = (.int i3) := Option.some.inj f3
  obtain ⟨e4, g5⟩ := and_e g4
  obtain ⟨i4, f4⟩ := is_v e4
  obtain rfl : v4 = (.int i4) := Option.some.inj f4
  obtain ⟨i5, f5⟩ := is_v g5
  obtain rfl : v5 = (.int i5) := Option.some.inj f5
  obtain ⟨n, o, h1, h2, h3, _, L, rfl, ⟨⟨rfl, -⟩, N⟩, hq⟩ := law_met l s _ hw s.heap.size s.heap (Nat.le_refl _) i0 i1 i2 i3 i4 i5 tables_1 p e ha hc hk s m _ below hf ((Spec.applies_iff_loose hf).mp happ).1 ⟨rfl, State.Warmed39.refl s, rfl⟩ trivial
  refine ⟨n, _, h1, h2, h3, hpost _ _ _ _ _ _ ⟨Cond.after_iff.mpr rfl, Cond.after_iff.mpr (eq_i res_at (Term.int_eval (1)) rfl), trivial⟩ ⟨hq.1, hq.2.1, (hq.2.2.sift fun y hy => Or.inr (N y hy)).mono (by decide) (by decide)⟩⟩
theorem main_1_1 : Claimed_1_1 := comes_1 fun _ _ _ _ _ _ h hF => ⟨h.1, hF⟩
theorem main_1_2 : Claimed_1_2 := comes_1 fun _ _ _ _ _ _ h hF => ⟨h.2.1, hF⟩
end Jvm.Pilot.@@N@@
namespace Jvm.Pilot.@@N@@
open Jvm Jvm.ClassFile Sem Op Lib Jvm.Free Jvm.Stand Jvm.Pilot.@@N@@.Jvm.D
/-! MADE BY PROGRAM (witnessworld.py) out of the Statement's table words and the real class files: 9 classes; the members and pool entries that the words name. The judged class is class 1, her method 1. -/
namespace start1
open Jvm.ClassFile
def u (s : String) : CpInfo := .utf8 (stringToUtf16 s)
/-- a pool by its gaps: so many unusable entries, then the entry; so many at the end -/
def gap : Nat → List CpInfo → List CpInfo
  | 0, r => r
  | n + 1, r => .unusable :: gap n r
def poolList (es : List (Nat × CpInfo)) (last : Nat) : List CpInfo := es.foldr (fun e r => gap e.1 (e.2 :: r)) (gap last [])
def pool (es : List (Nat × CpInfo)) (last : Nat) : Array CpInfo := ⟨poolList es last⟩
def fileOf (pool : Array CpInfo) (this : Nat) (attrs : Array Attribute := #[]) (ms : Array MethodInfo := #[]) (fl : Nat := 33) (sup : Nat := 0) (ifs : Array Nat := #[]) (fds : Array FieldInfo := #[]) : ClassFile where
  minorVersion := 0
  majorVersion := 65
  constantPool := pool
  accessFlags := fl
  thisClass := this
  superClass := sup
  interfaces := ifs
  fields := fds
  methods := ms
  attributes := attrs
def plain (name : String) (sup : Option ClassId) : Class where
  name := name
  kind := .ordinary
  loader := none
  accessFlags := 33
  super := sup
  interfaces := #[]
  cf := none
  fields := #[]
  methods := #[]
  instanceTypes := #[]
  staticTypes := #[]
  resolved := #[]
  callSites := []
  init := .initialized
  statics := none
  mirror := none

def pool0 : Array CpInfo := pool [(5, u "<init>"), (0, u "()V"), (1, .class_ 10), (1, u "java/lang/Object")] 113

def k0c0 : Code := { maxStack := 0, maxLocals := 1, code := object_method_1_code, exceptionTable := #[], attributes := #[] }
def k0m0 : Method := { name := "<init>", desc := "()V", sig := { parameters := [], returnType := none }, accessFlags := 1, code := some k0c0 }
/-- java/lang/Object -/
def k0 : Class := { plain "java/lang/Object" none with
  accessFlags := 33
  interfaces := #[]
  cf := some (fileOf pool0 8 #[] #[{ accessFlags := 1, nameIndex := 5, descriptorIndex := 6, attributes := #[] }] 33 0 #[] #[])
  fields := #[]
  methods := #[k0m0]
  instanceTypes := #[]
  staticTypes := #[]
  resolved := Array.replicate 124 none
  statics := none }

def pool1 : Array CpInfo := pool [(2, .class_ 4), (1, u "java/lang/Object"), (0, u "<init>"), (0, u "()V"), (0, .class_ 8), (0, u "com/example/torino/torino/AbsorbingChain"), (0, .methodref 7 10), (0, .nameAndType 5 11), (0, u "(I)V"), (0, .double 4652218415073722368), (1, .methodref 7 15), (0, .nameAndType 16 17), (0, u "addExit"), (0, u "(IDD)V"), (0, .long 1000), (1, .methodref 7 21), (0, .nameAndType 22 23), (0, u "solve"), (0, u "(J)[D"), (0, .class_ 25), (0, u "com/example/torino/torino/AbsorbingChainAddExitPinLaw"), (2, u "law"), (0, u "(IIIIII)Z")] 5

def k1m0 : Method := { name := "<init>", desc := "()V", sig := { parameters := [], returnType := none }, accessFlags := 1, code := none }
def k1c1 : Code := { maxStack := 6, maxLocals := 17, code := code, exceptionTable := #[], attributes := #[] }
def k1m1 : Method := { name := "law", desc := "(IIIIII)Z", sig := { parameters := [.int, .int, .int, .int, .int, .int], returnType := some .boolean }, accessFlags := 9, code := some k1c1 }
/-- com/example/torino/torino/AbsorbingChainAddExitPinLaw -/
def k1 : Class := { plain "com/example/torino/torino/AbsorbingChainAddExitPinLaw" (some 0) with
  accessFlags := 49
  interfaces := #[]
  cf := some (fileOf pool1 24 #[] #[{ accessFlags := 1, nameIndex := 5, descriptorIndex := 6, attributes := #[] }, { accessFlags := 9, nameIndex := 28, descriptorIndex := 29, attributes := #[] }] 49 2 #[] #[])
  fields := #[]
  methods := #[k1m0, k1m1]
  instanceTypes := #[]
  staticTypes := #[]
  resolved := Array.replicate 35 none
  statics := none }

def pool2 : Array CpInfo := pool [(1, .methodref 2 3), (0, .class_ 4), (0, .nameAndType 5 6), (0, u "java/lang/Object"), (0, u "<init>"), (0, u "()V"), (0, .fieldref 8 9), (0, .class_ 10), (0, .nameAndType 11 12), (0, u "com/example/torino/torino/AbsorbingChain"), (0, u "markedRow"), (0, u "I"), (0, .fieldref 8 14), (0, .nameAndType 15 12), (0, u "size"), (0, .fieldref 8 17), (0, .nameAndType 18 19), (0, u "exitProbabilities"), (0, u "[D"), (0, .fieldref 8 21), (0, .nameAndType 22 19), (0, u "exitValues"), (0, .class_ 24), (0, u "[I"), (0, .fieldref 8 26), (0, .nameAndType 27 28), (0, u "nexts"), (0, u "[[I"), (0, .class_ 19), (0, .fieldref 8 31), (0, .nameAndType 32 33), (0, u "probabilities"), (0, u "[[D"), (0, .fieldref 8 35), (0, .nameAndType 36 24), (0, u "lengths"), (0, .fieldref 8 38), (0, .nameAndType 39 28), (0, u "predecessors"), (0, .fieldref 8 41), (0, .nameAndType 42 24), (0, u "predecessorCounts"), (0, .fieldref 8 44), (0, .nameAndType 45 24), (0, u "entryMarks"), (0, .fieldref 8 47), (0, .nameAndType 48 24), (0, u "entries"), (12, u "(I)V"), (13, u "mark"), (14, u "addExit"), (0, u "(IDD)V"), (1, u "solve"), (0, u "(J)[D")] 2

def k2c0 : Code := { maxStack := 3, maxLocals := 3, code := prog_1_method_1_code, exceptionTable := #[], attributes := #[] }
def k2m0 : Method := { name := "<init>", desc := "(I)V", sig := { parameters := [.int], returnType := none }, accessFlags := 0, code := some k2c0 }
def k2c1 : Code := { maxStack := 8, maxLocals := 6, code := prog_1_method_3_code, exceptionTable := #[], attributes := #[] }
def k2m1 : Method := { name := "addExit", desc := "(IDD)V", sig := { parameters := [.int, .double, .double], returnType := none }, accessFlags := 0, code := some k2c1 }
def k2c2 : Code := { maxStack := 7, maxLocals := 11, code := prog_1_method_5_code, exceptionTable := #[], attributes := #[] }
def k2m2 : Method := { name := "solve", desc := "(J)[D", sig := { parameters := [.long], returnType := some (.array .double) }, accessFlags := 0, code := some k2c2 }
/-- com/example/torino/torino/AbsorbingChain -/
def k2 : Class := { plain "com/example/torino/torino/AbsorbingChain" (some 0) with
  accessFlags := 32
  interfaces := #[]
  cf := some (fileOf pool2 8 #[] #[{ accessFlags := 0, nameIndex := 5, descriptorIndex := 61, attributes := #[] }, { accessFlags := 0, nameIndex := 90, descriptorIndex := 91, attributes := #[] }, { accessFlags := 0, nameIndex := 93, descriptorIndex := 94, attributes := #[] }] 32 2 #[] #[{ accessFlags := 18, nameIndex := 15, descriptorIndex := 12, attributes := #[] }, { accessFlags := 18, nameIndex := 18, descriptorIndex := 19, attributes := #[] }, { accessFlags := 18, nameIndex := 22, descriptorIndex := 19, attributes := #[] }, { accessFlags := 18, nameIndex := 27, descriptorIndex := 28, attributes := #[] }, { accessFlags := 18, nameIndex := 32, descriptorIndex := 33, attributes := #[] }, { accessFlags := 18, nameIndex := 36, descriptorIndex := 24, attributes := #[] }, { accessFlags := 18, nameIndex := 39, descriptorIndex := 28, attributes := #[] }, { accessFlags := 18, nameIndex := 42, descriptorIndex := 24, attributes := #[] }, { accessFlags := 18, nameIndex := 45, descriptorIndex := 24, attributes := #[] }, { accessFlags := 18, nameIndex := 48, descriptorIndex := 24, attributes := #[] }, { accessFlags := 2, nameIndex := 75, descriptorIndex := 12, attributes := #[] }, { accessFlags := 2, nameIndex := 11, descriptorIndex := 12, attributes := #[] }])
  fields := #[{ name := "size", type := .int, accessFlags := 18, slot := 0, constantValue := 0 }, { name := "exitProbabilities", type := (.array .double), accessFlags := 18, slot := 1, constantValue := 0 }, { name := "exitValues", type := (.array .double), accessFlags := 18, slot := 2, constantValue := 0 }, { name := "nexts", type := (.array (.array .int)), accessFlags := 18, slot := 3, constantValue := 0 }, { name := "probabilities", type := (.array (.array .double)), accessFlags := 18, slot := 4, constantValue := 0 }, { name := "lengths", type := (.array .int), accessFlags := 18, slot := 5, constantValue := 0 }, { name := "predecessors", type := (.array (.array .int)), accessFlags := 18, slot := 6, constantValue := 0 }, { name := "predecessorCounts", type := (.array .int), accessFlags := 18, slot := 7, constantValue := 0 }, { name := "entryMarks", type := (.array .int), accessFlags := 18, slot := 8, constantValue := 0 }, { name := "entries", type := (.array .int), accessFlags := 18, slot := 9, constantValue := 0 }, { name := "mark", type := .int, accessFlags := 2, slot := 10, constantValue := 0 }, { name := "markedRow", type := .int, accessFlags := 2, slot := 11, constantValue := 0 }]
  methods := #[k2m0, k2m1, k2m2]
  instanceTypes := #[.int, (.array .double), (.array .double), (.array (.array .int)), (.array (.array .double)), (.array .int), (.array (.array .int)), (.array .int), (.array .int), (.array .int), .int, .int]
  staticTypes := #[]
  resolved := Array.replicate 97 none
  statics := none }

def pool3 : Array CpInfo := pool [(1, u "java/lang/Cloneable"), (0, .class_ 1), (0, u "java/lang/Object"), (0, .class_ 3)] 3

/-- java/lang/Cloneable -/
def k3 : Class := { plain "java/lang/Cloneable" (some 0) with
  accessFlags := 1537
  interfaces := #[]
  cf := some (fileOf pool3 2 #[] #[] 1537 4 #[] #[])
  fields := #[]
  methods := #[]
  instanceTypes := #[]
  staticTypes := #[]
  resolved := Array.replicate 8 none
  statics := none }

def pool4 : Array CpInfo := pool [(1, u "java/io/Serializable"), (0, .class_ 1), (0, u "java/lang/Object"), (0, .class_ 3)] 3

/-- java/io/Serializable -/
def k4 : Class := { plain "java/io/Serializable" (some 0) with
  accessFlags := 1537
  interfaces := #[]
  cf := some (fileOf pool4 2 #[] #[] 1537 4 #[] #[])
  fields := #[]
  methods := #[]
  instanceTypes := #[]
  staticTypes := #[]
  resolved := Array.replicate 8 none
  statics := none }

/-- the primitive byte -/
def k5 : Class := { plain "byte" none with kind := .primitive 'B', accessFlags := 0x411 }
/-- [B -/
def k6 : Class := { plain "[B" (some 0) with kind := .array 5 .byte, interfaces := #[3, 4], accessFlags := 1041 }

/-- the primitive int -/
def k7 : Class := { plain "int" none with kind := .primitive 'I', accessFlags := 0x411 }
/-- [I -/
def k8 : Class := { plain "[I" (some 0) with kind := .array 7 .int, interfaces := #[3, 4], accessFlags := 1041 }

def heap : Heap := #[]
def k9 : Class := { plain "double" none with kind := .primitive 'D', accessFlags := 0x411 }
def k10 : Class := { plain "[D" (some 0) with kind := .array 9 .double, interfaces := #[3, 4], accessFlags := 1041 }
def k11 : Class := { plain "[[I" (some 0) with kind := .array 8 (.array .int), interfaces := #[3, 4], accessFlags := 1041 }
def k12 : Class := { plain "[[D" (some 0) with kind := .array 10 (.array .double), interfaces := #[3, 4], accessFlags := 1041 }
def classes : Array Class := #[k0, k1, k2, k3, k4, k5, k6, k7, k8, k9, k10, k11, k12]
def interned : List (Array UInt16 × Addr) := []
def slotsUsed : Nat := 0
def theMethod : MethodId := ⟨1, 1⟩
def args0 : Array Value := #[.int 5, .int 6, .int 7, .int 8, .int 9, .int 10]
def aboutOver (below : List Frame) : State where
  vm := { classes := classes, interned := interned.toArray }
  heap := heap
  slotsUsed := slotsUsed
  threads := #[{ frames := .invoking theMethod args0 :: below }]
def below0 : List Frame := [.native { method := ⟨0, 0⟩, args := #[] }]
def about1 : State := aboutOver below0
def p0 : Program := .bare "" "" ""
def e0 : Env := launch0.env 0 0 0
theorem w_frames : about1.frames = Frame.invoking theMethod args0 :: below0 := rfl
set_option maxRecDepth 65536 in
theorem w_args : argsFit about1.vm theMethod args0 = true := by decide +kernel
set_option maxRecDepth 65536 in
theorem w_heap : heapFits about1 = true := by decide +kernel
set_option maxRecDepth 65536 in
theorem w_runnable : about1.curStatus? = some .runnable := by decide +kernel
set_option maxRecDepth 65536 in
theorem w_alone : about1.alone = true := by decide +kernel
set_option maxRecDepth 65536 in
theorem w_named : about1.methodNamed? x = some theMethod := by decide +kernel
set_option maxRecDepth 65536 in
theorem w_hears : about1.hears theMethod below0 = true := by decide +kernel
set_option maxRecDepth 65536 in
theorem w_ripe : about1.ripe theMethod args0 below0 = true := by decide +kernel
theorem w_running : about1.status = .running := rfl
set_option maxRecDepth 65536 in
theorem w_room : about1.hasRoom e0.platform room_1 = true :=
  launch0.hasRoom_least _ room_1 (by decide +kernel) (by decide +kernel) (by decide +kernel) (by decide +kernel) (by decide +kernel) (by decide +kernel)
theorem allAtoms_all (ts : List Jvm.Cond) (a : Array Jvm.Value) (st : Jvm.State) : (allAtoms ts).before a st = ts.all (fun c => c.before a st) := by
  induction ts with
  | nil => rfl
  | cons c t ih =>
    show (Jvm.Cond.and c (allAtoms t)).before a st = _
    rw [Jvm.Cond.before_and, ih, List.all_cons]
def words1 : List Jvm.Cond := Jvm.Cond.code x code maxLocals ret :: tables_1
/-- a 'code' word, met by the world's own term for the bytes: nothing is compared byte by byte -/
theorem code_word {y : MethodName} {bytes : ByteArray} {mx : Nat} {rt : Option FieldType} {a : Array Value} {s : State} {m : MethodId} {meth : Method} {c : Code} (h1 : s.methodNamed? y = some m) (h2 : s.vm.method? m = some meth) (h3 : meth.code = some c) (h4 : c.code = bytes)
    (h5 : (c.maxLocals == mx && c.exceptionTable.isEmpty && decide (c.maxStack ≤ mostOperands) && decide (meth.sig.returnType = rt) && !meth.locks && decide (parseMethodDescriptor y.desc = some meth.sig)) = true) : (Jvm.Cond.code y bytes mx rt).before a s = true := by
  simp only [Bool.and_eq_true, beq_iff_eq, Bool.not_eq_true', decide_eq_true_eq] at h5
  obtain ⟨⟨⟨⟨⟨g1, g2⟩, g3⟩, g4⟩, g5⟩, g6⟩ := h5
  simp [Cond.before, Cond.holds, Cond.value, h1, h2, h3, h4, g1, g2, g3, g4, g5, g6]
def isCode : Jvm.Cond → Bool
  | .code _ _ _ _ => true
  | _ => false
theorem all_split {L : List Jvm.Cond} {P : Jvm.Cond → Bool} (h1 : L.all (fun c => isCode c || P c) = true) (h2 : ∀ c ∈ L.filter isCode, P c = true) : L.all P = true := by
  refine List.all_eq_true.mpr fun c hc => ?_
  have h := List.all_eq_true.mp h1 c hc
  rcases Bool.eq_false_or_eq_true (isCode c) with hi | hi
  · exact h2 c (List.mem_filter.mpr ⟨hc, hi⟩)
  · simpa [hi] using h
set_option maxRecDepth 65536 in
theorem w_c0 : (Jvm.Cond.code x code maxLocals ret).before args0 about1 = true := code_word (m := ⟨1, 1⟩) (meth := k1m1) (c := k1c1) (by decide +kernel) rfl rfl rfl (by decide +kernel)
set_option maxRecDepth 65536 in
theorem w_c1 : (Jvm.Cond.code ({ cls := "com/example/torino/torino/AbsorbingChain", name := "<init>", desc := "(I)V" } : Jvm.MethodName) prog_1_method_1_code (3 : Nat) (Option.none : Option Jvm.ClassFile.FieldType)).before args0 about1 = true := code_word (m := ⟨2, 0⟩) (meth := k2m0) (c := k2c0) (by decide +kernel) rfl rfl rfl (by decide +kernel)
set_option maxRecDepth 65536 in
theorem w_c2 : (Jvm.Cond.code ({ cls := "java/lang/Object", name := "<init>", desc := "()V" } : Jvm.MethodName) object_method_1_code (1 : Nat) (Option.none : Option Jvm.ClassFile.FieldType)).before args0 about1 = true := code_word (m := ⟨0, 0⟩) (meth := k0m0) (c := k0c0) (by decide +kernel) rfl rfl rfl (by decide +kernel)
set_option maxRecDepth 65536 in
theorem w_c3 : (Jvm.Cond.code ({ cls := "com/example/torino/torino/AbsorbingChain", name := "addExit", desc := "(IDD)V" } : Jvm.MethodName) prog_1_method_3_code (6 : Nat) (Option.none : Option Jvm.ClassFile.FieldType)).before args0 about1 = true := code_word (m := ⟨2, 1⟩) (meth := k2m1) (c := k2c1) (by decide +kernel) rfl rfl rfl (by decide +kernel)
set_option maxRecDepth 65536 in
theorem w_c4 : (Jvm.Cond.code ({ cls := "com/example/torino/torino/AbsorbingChain", name := "solve", desc := "(J)[D" } : Jvm.MethodName) prog_1_method_5_code (11 : Nat) (Option.some (Jvm.ClassFile.FieldType.array Jvm.ClassFile.FieldType.double))).before args0 about1 = true := code_word (m := ⟨2, 2⟩) (meth := k2m2) (c := k2c2) (by decide +kernel) rfl rfl rfl (by decide +kernel)
def codes1 : List Jvm.Cond := [Jvm.Cond.code x code maxLocals ret, Jvm.Cond.code ({ cls := "com/example/torino/torino/AbsorbingChain", name := "<init>", desc := "(I)V" } : Jvm.MethodName) prog_1_method_1_code (3 : Nat) (Option.none : Option Jvm.ClassFile.FieldType), Jvm.Cond.code ({ cls := "java/lang/Object", name := "<init>", desc := "()V" } : Jvm.MethodName) object_method_1_code (1 : Nat) (Option.none : Option Jvm.ClassFile.FieldType), Jvm.Cond.code ({ cls := "com/example/torino/torino/AbsorbingChain", name := "addExit", desc := "(IDD)V" } : Jvm.MethodName) prog_1_method_3_code (6 : Nat) (Option.none : Option Jvm.ClassFile.FieldType), Jvm.Cond.code ({ cls := "com/example/torino/torino/AbsorbingChain", name := "solve", desc := "(J)[D" } : Jvm.MethodName) prog_1_method_5_code (11 : Nat) (Option.some (Jvm.ClassFile.FieldType.array Jvm.ClassFile.FieldType.double))]
set_option maxRecDepth 65536 in
theorem codes_eq : words1.filter isCode = codes1 := rfl
theorem w_codes : ∀ c ∈ words1.filter isCode, c.before args0 about1 = true := by
  rw [codes_eq]
  intro c hc
  simp only [codes1, List.mem_cons, List.not_mem_nil, or_false] at hc
  rcases hc with rfl | rfl | rfl | rfl | rfl
  · exact w_c0
  · exact w_c1
  · exact w_c2
  · exact w_c3
  · exact w_c4
set_option maxRecDepth 65536 in
theorem w_t1 : (words1.take 24).all (fun c => isCode c || c.before args0 about1) = true := by decide +kernel
set_option maxRecDepth 65536 in
theorem w_t2 : ((words1.drop 24).take 24).all (fun c => isCode c || c.before args0 about1) = true := by decide +kernel
set_option maxRecDepth 65536 in
theorem w_t3 : ((words1.drop 24).drop 24).all (fun c => isCode c || c.before args0 about1) = true := by decide +kernel
theorem w_tables : (allAtoms (Jvm.Cond.code x code maxLocals ret :: tables_1)).before args0 about1 = true := by
  rw [allAtoms_all]
  show words1.all (fun c => c.before args0 about1) = true
  refine all_split ?_ w_codes
  rw [← List.take_append_drop 24 words1, List.all_append, w_t1, ← List.take_append_drop 24 (words1.drop 24), List.all_append, w_t2, w_t3]
  rfl
set_option maxRecDepth 65536 in
theorem w_case : (Jvm.Cond.and given_1 narrow_1).before args0 about1 = true := by decide +kernel
theorem w_applies : (headSpec (Jvm.Cond.code x code maxLocals ret :: tables_1) room_1).applies x e0.platform about1 = true :=
  (Spec.applies_iff w_frames).mpr ⟨w_running, w_runnable, w_alone, w_named, w_hears, w_ripe, w_room, w_tables⟩
theorem atStart : AtStart classFile x code maxLocals ret World_1 tables_1 room_1 Calls_1 rest_1 Pre_1 launch0 p0 e0 about1 theMethod args0 below0 :=
  ⟨lists_1, trivial, launch0.admits_env _ _ _, launch0.least_env, fairChoices_fair.cas, fairChoices_fair.clock, w_frames, w_args, w_heap, w_applies, trivial, trivial, w_case⟩
end start1
theorem witness_1 : WitnessClaimed_1 := ⟨start1.p0, start1.e0, start1.about1, start1.theMethod, start1.args0, start1.below0, start1.atStart⟩
end Jvm.Pilot.@@N@@
