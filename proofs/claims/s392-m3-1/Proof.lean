import JvmDerived
import JvmDerived.Pilot.@@N@@Statement
import JvmDerived.Pilot.@@N@@Code
set_option linter.unusedVariables false
set_option linter.unusedSimpArgs false
namespace Jvm.Own
open Jvm Jvm.ClassFile Sem Op Lib Jvm.Free Jvm.Stand Jvm.LawKit Jvm.RoadKit
/-! MY LAYER: a goal 'Wk' over the library's Stand (from any state that stands here with the heap h, the walk comes to its end and Q holds), one rule a step; W: may the walk intern (wide frame). -/
def Bs (W : Bool) (s : State) (vm0 : Vm) (sz : Nat) : Prop := match W with
  | false => vm0 = s.vm
  | true => ∃ k0, s.Since vm0 k0 ∧ k0 ≤ sz
def En (W : Bool) (s : State) (o : Outcome) (t : State) (L : List Loc) (k n : Nat) : Prop := match W with
  | false => FrameEnd s o t L k n
  | true => ReturnedEndW s o t L k n
def Cx (Z : State) (p : Program) (s : State) (m : MethodId) (meth : Method) (c : Code) (y : MethodName) (bytes : ByteArray) (maxL : Nat) (ret : Option FieldType) : Prop :=
  p.tables.exec = Jvm.exec ∧ c.code = bytes ∧ c.maxLocals = maxL ∧ Z.Warmed39 s.vm ∧ s.vm.findClass y.cls = some m.cls ∧ meth.name = y.name ∧ meth.sig.returnType = ret ∧ meth.locks = false
def Wk (W : Bool) (p : Program) (l : Launch) (e : Env) (R : Room) (s : State) (m : MethodId) (args : Array Value) (below : List Frame) (meth : Method) (c : Code) (n0 : Nat) (Q : Option Value → Heap → Prop) (h : Heap) (k n : Nat) (g : JFrame) : Prop :=
  ∀ T L vm0, Stand p l e R (s.setVm vm0) m args below meth c T L k n → Bs W s vm0 h.size → T.heap = h → Fr n0 L →
    ∃ s₂ o, Steps p.tables e below (T.setTop g) s₂ ∧ s₂.status = .running ∧ Ended s₂ below o ∧ ∃ v L, o = .returned v ∧ (Q v s₂.heap ∧ Fr n0 L) ∧ En W s o s₂ L R.cells R.slots
def Met (W : Bool) (l : Launch) (Z : State) (n0 : Nat) (y : MethodName) (bytes : ByteArray) (maxL : Nat) (ret : Option FieldType) (rm : Room) (as : Array Value) (h : Heap) (Q : Option Value → Heap → Prop) : Prop :=
  ∀ ws, MetFree l y (head1 (Cond.code y bytes maxL ret :: ws) rm) (fun a U => a = as ∧ Z.Warmed39 U.vm ∧ U.heap = h) (fun _ _ _ _ _ => True)
    (fun _ U o U' => ∃ v L, o = .returned v ∧ (Q v U'.heap ∧ Fr n0 L) ∧ En W U o U' L rm.cells rm.slots)
theorem Bs.start (W : Bool) (s : State) (sz : Nat) : Bs W s s.vm sz := by
  cases W
  · rfl
  · exact ⟨0, (State.WarmedH.refl s).since 0, Nat.zero_le _⟩
theorem Bs.mono {W : Bool} {s : State} {vm0 : Vm} {a b : Nat} (B : Bs W s vm0 a) (q : a ≤ b) : Bs W s vm0 b := by
  cases W
  · exact B
  · obtain ⟨k0, h1, h2⟩ := B; exact ⟨k0, h1, Nat.le_trans h2 q⟩
theorem Bs.warm {W : Bool} {s : State} {vm0 : Vm} {a : Nat} (B : Bs W s vm0 a) : s.Warmed39 vm0 := by
  cases W
  · cases (B : vm0 = s.vm); exact State.Warmed39.refl s
  · obtain ⟨k0, h1, h2⟩ := B; exact h1.1
section Cxs
variable {W : Bool} {Z : State} {p : Program} {s : State} {m : MethodId} {meth : Method} {c : Code} {y : MethodName} {bytes : ByteArray} {maxL : Nat} {ret : Option FieldType}
theorem Cx.hx (C : Cx Z p s m meth c y bytes maxL ret) : p.tables.exec = Jvm.exec := C.1
theorem Cx.hby (C : Cx Z p s m meth c y bytes maxL ret) : c.code = bytes := C.2.1
theorem Cx.hml (C : Cx Z p s m meth c y bytes maxL ret) : c.maxLocals = maxL := C.2.2.1
theorem Cx.hZ (C : Cx Z p s m meth c y bytes maxL ret) : Z.Warmed39 s.vm := C.2.2.2.1
theorem Cx.hown (C : Cx Z p s m meth c y bytes maxL ret) : s.vm.findClass y.cls = some m.cls := C.2.2.2.2.1
theorem Cx.hnm (C : Cx Z p s m meth c y bytes maxL ret) : meth.name = y.name := C.2.2.2.2.2.1
theorem Cx.hret (C : Cx Z p s m meth c y bytes maxL ret) : meth.sig.returnType = ret := C.2.2.2.2.2.2.1
theorem Cx.hlk (C : Cx Z p s m meth c y bytes maxL ret) : meth.locks = false := C.2.2.2.2.2.2.2
theorem Cx.wZ (C : Cx Z p s m meth c y bytes maxL ret) {vm0 : Vm} {a : Nat} (B : Bs W s vm0 a) : Z.Warmed39 (s.setVm vm0).vm := State.Warmed39.trans (t := s) C.hZ B.warm
theorem Cx.wo (C : Cx Z p s m meth c y bytes maxL ret) {vm0 : Vm} {a : Nat} (B : Bs W s vm0 a) : (s.setVm vm0).vm.findClass y.cls = some m.cls := by
  show vm0.findClass y.cls = _
  rw [B.warm.alike.findClass]; exact C.hown
end Cxs
theorem Met.of {W : Bool} {l : Launch} {Z : State} {n0 : Nat} {y : MethodName} {bytes : ByteArray} {maxL : Nat} {ret : Option FieldType} {rm : Room} {as : Array Value} {h : Heap} {Q : Option Value → Heap → Prop}
    (hpn : plainFor y = true) (Ls : Array Slot) (hef : ∀ m, entryFrame m as maxL = mkF m 0 Ls [])
    (H : ∀ p e s m below meth c, Cx Z p s m meth c y bytes maxL ret → Wk W p l e rm s m as below meth c n0 Q h 0 0 (mkF m 0 Ls [])) : Met W l Z n0 y bytes maxL ret rm as h Q := by
  intro ws
  refine MetFree.of_bodySF hpn hisR ?_
  intro p e s m args below meth c s₁ Bd hml0 hP hK
  obtain ⟨ha, hZ, hh⟩ := hP
  have hown := findClass_of_methodNamed Bd.named
  have hnm := (name_of_methodNamed Bd.named Bd.method).1
  have e0 : s₁.heap = h := by rw [← hh, Bd.state]; rfl
  have X0 : Stand p l e rm s m args below meth c s₁ [] 0 0 := Stand.of_body Bd
  rw [ha] at X0 ⊢
  obtain ⟨s₂, o, h1, h2⟩ := H p e s m below meth c ⟨Bd.exec, Bd.bytes, hml0, hZ, hown, hnm, Bd.returns, Bd.notSynchronized⟩ s₁ [] s.vm X0 (Bs.start W s _) e0 (Fr.nil n0)
  exact ⟨s₂, o, castTop (hef m) h1, h2⟩
section Rules
variable {W : Bool} {Z : State} {p : Program} {l : Launch} {e : Env} {R : Room} {s : State} {m : MethodId} {args : Array Value} {below : List Frame} {meth : Method} {c : Code} {y : MethodName} {bytes : ByteArray} {maxL : Nat} {ret : Option FieldType} {n0 : Nat} {Q : Option Value → Heap → Prop} {h : Heap} {k n : Nat} {g g' : JFrame} {a0 : Array Value}
theorem Wk.more {k' n' : Nat} (q1 : k ≤ k') (q2 : n ≤ n') (H : Wk W p l e R s m args below meth c n0 Q h k' n' g) : Wk W p l e R s m args below meth c n0 Q h k n g :=
  fun T L vm0 X B eT N => H T L vm0 (X.more q1 q2) B eT N
theorem Wk.st (f : ∀ {T : State} {L : List Loc} {vm0 : Vm}, Stand p l e R (s.setVm vm0) m args below meth c T L k n → ∀ t, Steps p.tables e below (T.setTop g') t → Steps p.tables e below (T.setTop g) t)
    (H : Wk W p l e R s m args below meth c n0 Q h k n g') : Wk W p l e R s m args below meth c n0 Q h k n g := by
  intro T L vm0 X B eT N
  obtain ⟨s₂, o, h1, h2⟩ := H T L vm0 X B eT N
  exact ⟨s₂, o, f X _ h1, h2⟩
/-- a step that needs the tables (as they stand at vm0) and the heap, and leaves the heap -/
theorem Wk.stZ (C : Cx Z p s m meth c y bytes maxL ret) (f : ∀ {T : State} {L : List Loc} {vm0 : Vm}, Stand p l e R (s.setVm vm0) m args below meth c T L k n → Z.Warmed39 (s.setVm vm0).vm → (s.setVm vm0).vm.findClass y.cls = some m.cls → T.heap = h → ∃ T', Stand p l e R (s.setVm vm0) m args below meth c T' L k n ∧ T'.heap = h ∧ ∀ t, Steps p.tables e below (T'.setTop g') t → Steps p.tables e below (T.setTop g) t)
    (H : Wk W p l e R s m args below meth c n0 Q h k n g') : Wk W p l e R s m args below meth c n0 Q h k n g := by
  intro T L vm0 X B eT N
  obtain ⟨T', X', e', st⟩ := f X (C.wZ B) (C.wo B) eT
  obtain ⟨s₂, o, h1, h2⟩ := H T' L vm0 X' B e' N
  exact ⟨s₂, o, st _ h1, h2⟩
/-- a step that writes one place of a new cell -/
theorem Wk.stW (C : Cx Z p s m meth c y bytes maxL ret) {a : Addr} {sl : Nat} {v : Value} (ge : n0 ≤ a) (f : ∀ {T : State} {L : List Loc} {vm0 : Vm}, Stand p l e R (s.setVm vm0) m args below meth c T L k n → Z.Warmed39 (s.setVm vm0).vm → (s.setVm vm0).vm.findClass y.cls = some m.cls → T.heap = h → ∃ T' h', Stand p l e R (s.setVm vm0) m args below meth c T' (L ++ [⟨a, sl⟩]) k n ∧ T'.heap = h' ∧ Wr h h' a sl v ∧ ∀ t, Steps p.tables e below (T'.setTop g') t → Steps p.tables e below (T.setTop g) t)
    (H : ∀ h', Wr h h' a sl v → Wk W p l e R s m args below meth c n0 Q h' k n g') : Wk W p l e R s m args below meth c n0 Q h k n g := by
  intro T L vm0 X B eT N
  obtain ⟨T', h', X', e', Wh, st⟩ := f X (C.wZ B) (C.wo B) eT
  obtain ⟨s₂, o, h1, h2⟩ := H h' Wh T' _ vm0 X' (B.mono (Nat.le_of_eq Wh.size.symm)) e' (Fr.snoc X' N ge)
  exact ⟨s₂, o, st _ h1, h2⟩
theorem Wk.ldcI (C : Cx Z p s m meth c y bytes maxL ret) {index : Nat} {v : Int32} (w : (Cond.constant y.cls index v).before a0 Z = true) {pc : Nat} {Ls : Array Slot} {st : List Value} (hd : decode bytes pc = .ok (.ldc index, 2))
    (H : Wk W p l e R s m args below meth c n0 Q h k n (mkF m (pc + 2) Ls (.int v :: st))) : Wk W p l e R s m args below meth c n0 Q h k n (mkF m pc Ls st) :=
  Wk.stZ C (fun X hZ ho eT => ⟨_, X, eT, fun t q => X.ldcI C.hx ho (mvT hZ w) rfl (hb C.hby hd) q⟩) H
theorem Wk.ldc2J (C : Cx Z p s m meth c y bytes maxL ret) {index : Nat} {v : Int64} (w : (Cond.constantLong y.cls index v).before a0 Z = true) {pc : Nat} {Ls : Array Slot} {st : List Value} (hd : decode bytes pc = .ok (.ldc2_w index, 3))
    (H : Wk W p l e R s m args below meth c n0 Q h k n (mkF m (pc + 3) Ls (.long v :: st))) : Wk W p l e R s m args below meth c n0 Q h k n (mkF m pc Ls st) :=
  Wk.stZ C (fun X hZ ho eT => ⟨_, X, eT, fun t q => X.ldc2J C.hx ho (mvT hZ w) rfl (hb C.hby hd) q⟩) H
theorem Wk.ldcF (C : Cx Z p s m meth c y bytes maxL ret) {index : Nat} {v : UInt32} (w : (Cond.constantFloat y.cls index v).before a0 Z = true) {pc : Nat} {Ls : Array Slot} {st : List Value} (hd : decode bytes pc = .ok (.ldc index, 2))
    (H : Wk W p l e R s m args below meth c n0 Q h k n (mkF m (pc + 2) Ls (.float v :: st))) : Wk W p l e R s m args below meth c n0 Q h k n (mkF m pc Ls st) :=
  Wk.stZ C (fun X hZ ho eT => ⟨_, X, eT, fun t q => X.ldcFloatC C.hx ho (mvT hZ w) (g := mkF m pc Ls st) rfl (hb C.hby hd) _ q⟩) H
theorem Wk.cast (C : Cx Z p s m meth c y bytes maxL ret) {K : String} {index : Nat} (w : (Cond.classLink y.cls index K).before a0 Z = true) {a : Addr} (F : Ins Z h a K true) {pc : Nat} {Ls : Array Slot} {st : List Value} (hd : decode bytes pc = .ok (.checkcast index, 3))
    (H : Wk W p l e R s m args below meth c n0 Q h k n (mkF m (pc + 3) Ls (.ref a :: st))) : Wk W p l e R s m args below meth c n0 Q h k n (mkF m pc Ls (.ref a :: st)) :=
  Wk.stZ C (fun X hZ ho eT => castY X C.hx hZ ho w eT F (g := mkF m pc Ls (.ref a :: st)) rfl rfl (hb C.hby hd)) H
theorem Wk.getS (C : Cx Z p s m meth c y bytes maxL ret) {O nm d : String} {index : Nat} (w : (Cond.fieldLink y.cls index O nm d).before a0 Z = true) {v : Value} (F : Sta Z h O nm d v) {pc : Nat} {Ls : Array Slot} {st : List Value} (hd : decode bytes pc = .ok (.getstatic index, 3))
    (H : Wk W p l e R s m args below meth c n0 Q h k n (mkF m (pc + 3) Ls (v :: st))) : Wk W p l e R s m args below meth c n0 Q h k n (mkF m pc Ls st) :=
  Wk.stZ C (fun X hZ ho eT => Jvm.RoadKit.getS (host := "") X C.hx hZ ho w Via.refl eT F (g := mkF m pc Ls st) rfl (hb C.hby hd)) H
theorem Wk.getF (C : Cx Z p s m meth c y bytes maxL ret) {R0 O nm d : String} {index : Nat} (w : (Cond.fieldLink y.cls index R0 nm d).before a0 Z = true) (via : Via Z R0 O nm d) {a : Addr} {v : Value} (F : Fld Z h a O nm d v) {pc : Nat} {Ls : Array Slot} {st : List Value} (hd : decode bytes pc = .ok (.getfield index, 3))
    (H : Wk W p l e R s m args below meth c n0 Q h k n (mkF m (pc + 3) Ls (v :: st))) : Wk W p l e R s m args below meth c n0 Q h k n (mkF m pc Ls (.ref a :: st)) :=
  Wk.stZ C (fun X hZ ho eT => Jvm.RoadKit.getF (host := "") X C.hx hZ ho (Or.inl w) via eT F (g := mkF m pc Ls (.ref a :: st)) rfl rfl (hb C.hby hd)) H
theorem Wk.putF (C : Cx Z p s m meth c y bytes maxL ret) {R0 O nm d K : String} {index kk : Nat} {ty : FieldType} (w : (Cond.fieldLink y.cls index R0 nm d).before a0 Z = true) (via : Via Z R0 O nm d) {a : Addr} {v v' old : Value} (F : Fld Z h a O nm d old) (E : Exa Z h a K)
    (L : (Cond.lays K O nm d).before a0 Z = true ∨ ((Cond.laysFinal K O nm d).before a0 Z = true ∧ y.cls = O ∧ y.name = "<init>")) (wi : (Cond.instantiable K kk).before a0 Z = true) (hty : parseFieldDescriptor d = some ty) (hn : narrow ty v = v') (hf : fits ty v' = true) (ge : n0 ≤ a)
    {pc : Nat} {Ls : Array Slot} {st : List Value} (hd : decode bytes pc = .ok (.putfield index, 3))
    (H : ∀ h', Wr h h' a (Jvm.RoadKit.slotOf Z O nm d) v' → Wk W p l e R s m args below meth c n0 Q h' k n (mkF m (pc + 3) Ls st)) : Wk W p l e R s m args below meth c n0 Q h k n (mkF m pc Ls (v :: .ref a :: st)) :=
  Wk.stW C ge (fun X hZ ho eT => Jvm.RoadKit.putFN X C.hx hZ ho w via eT F E (L.imp id fun q => ⟨q.1, q.2.1, C.hnm.trans q.2.2⟩) wi hty hn hf (g := mkF m pc Ls (v :: .ref a :: st)) rfl rfl (hb C.hby hd)) H
theorem Wk.newO (C : Cx Z p s m meth c y bytes maxL ret) {K : String} {index sz : Nat} (w : (Cond.classLink y.cls index K).before a0 Z = true) (wi : (Cond.instantiable K sz).before a0 Z = true) (wz : (Cond.initialized K).before a0 Z = true) {pc : Nat} {Ls : Array Slot} {st : List Value} (hd : decode bytes pc = .ok (.new index, 3)) (hc : k + 1 ≤ R.cells) (hl : n + sz ≤ R.slots)
    (H : ∀ h' a, a = h.size → Ext h h' → Exa Z h' a K → (∀ {O nm d : String} {ty : FieldType}, Laid Z a0 K O nm d → parseFieldDescriptor d = some ty → Fld Z h' a O nm d (defaultValue ty)) → Wk W p l e R s m args below meth c n0 Q h' (k + 1) (n + sz) (mkF m (pc + 3) Ls (.ref a :: st))) :
    Wk W p l e R s m args below meth c n0 Q h k n (mkF m pc Ls st) := by
  intro T L vm0 X B eT N
  obtain ⟨T', h', X', e', E, A, D, -, st⟩ := Jvm.RoadKit.newO X C.hx (C.wZ B) (C.wo B) w wi wz eT (g := mkF m pc Ls st) rfl (hb C.hby hd) hc hl
  obtain ⟨s₂, o, h1, h2⟩ := H h' _ rfl E A D T' L vm0 X' (B.mono E.1) e' N
  exact ⟨s₂, o, st _ h1, h2⟩
theorem Wk.newP (C : Cx Z p s m meth c y bytes maxL ret) {aty : ArrayType} (w : (Cond.arrayClass (newarray.typeOf aty)).before a0 Z = true) {z : Int32} (hz : ¬ z < 0) {cap : Nat} (hcap : z.toNatClampNeg ≤ cap) (hbig : cap * 8 ≤ 536870912) {pc : Nat} {Ls : Array Slot} {st : List Value} (hd : decode bytes pc = .ok (.newarray aty, 2)) (hc : k + 1 ≤ R.cells) (hl : n + cap ≤ R.slots)
    (H : ∀ h' a cA, a = h.size → Ext h h' → Arr Z h' a (newA cA (newarray.typeOf aty) z) (newarray.typeOf aty) → Wk W p l e R s m args below meth c n0 Q h' (k + 1) (n + cap) (mkF m (pc + 2) Ls (.ref a :: st))) :
    Wk W p l e R s m args below meth c n0 Q h k n (mkF m pc Ls (.int z :: st)) := by
  intro T L vm0 X B eT N
  obtain ⟨T', h', cA, X', e', E, A, st⟩ := Jvm.RoadKit.newP X C.hx (C.wZ B) w eT (g := mkF m pc Ls (.int z :: st)) rfl (hb C.hby hd) rfl hz hcap hbig hc hl
  obtain ⟨s₂, o, h1, h2⟩ := H h' _ cA rfl E A T' L vm0 X' (B.mono E.1) e' N
  exact ⟨s₂, o, st _ h1, h2⟩
theorem Wk.newR (C : Cx Z p s m meth c y bytes maxL ret) {K : String} {index : Nat} (w1 : (Cond.classLink y.cls index K).before a0 Z = true) (w2 : (Cond.arrayOver (.object K)).before a0 Z = true) {z : Int32} (hz : ¬ z < 0) {cap : Nat} (hcap : z.toNatClampNeg ≤ cap) (hbig : cap * 8 ≤ 536870912) {pc : Nat} {Ls : Array Slot} {st : List Value} (hd : decode bytes pc = .ok (.anewarray index, 3)) (hc : k + 1 ≤ R.cells) (hl : n + cap ≤ R.slots)
    (H : ∀ h' a cA, a = h.size → Ext h h' → Arr Z h' a (newA cA (.object K) z) (.object K) → Ovr Z cA K → Wk W p l e R s m args below meth c n0 Q h' (k + 1) (n + cap) (mkF m (pc + 3) Ls (.ref a :: st))) :
    Wk W p l e R s m args below meth c n0 Q h k n (mkF m pc Ls (.int z :: st)) := by
  intro T L vm0 X B eT N
  obtain ⟨T', h', cA, X', e', E, A, O, st⟩ := Jvm.RoadKit.newR X C.hx (C.wZ B) (C.wo B) w1 w2 eT (g := mkF m pc Ls (.int z :: st)) rfl (hb C.hby hd) rfl hz hcap hbig hc hl
  obtain ⟨s₂, o, h1, h2⟩ := H h' _ cA rfl E A O T' L vm0 X' (B.mono E.1) e' N
  exact ⟨s₂, o, st _ h1, h2⟩
theorem Wk.stI (C : Cx Z p s m meth c y bytes maxL ret) {a : Addr} {cl : Cell} (A : Arr Z h a cl .int) {j x : Int32} (hj : ¬ (j < 0 ∨ cl.slots.size ≤ j.toNatClampNeg)) (ge : n0 ≤ a) {pc : Nat} {Ls : Array Slot} {st : List Value} (hd : decode bytes pc = .ok (.iastore, 1))
    (H : ∀ h', Wr h h' a j.toNatClampNeg (.int x) → Wk W p l e R s m args below meth c n0 Q h' k n (mkF m (pc + 1) Ls st)) : Wk W p l e R s m args below meth c n0 Q h k n (mkF m pc Ls (.int x :: .int j :: .ref a :: st)) :=
  Wk.stW C ge (fun X hZ ho eT => Jvm.RoadKit.stI X C.hx hZ eT A hj (g := mkF m pc Ls (.int x :: .int j :: .ref a :: st)) rfl rfl (hb C.hby hd)) H
theorem Wk.stJ (C : Cx Z p s m meth c y bytes maxL ret) {a : Addr} {cl : Cell} (A : Arr Z h a cl .long) {j : Int32} {x : Int64} (hj : ¬ (j < 0 ∨ cl.slots.size ≤ j.toNatClampNeg)) (ge : n0 ≤ a) {pc : Nat} {Ls : Array Slot} {st : List Value} (hd : decode bytes pc = .ok (.lastore, 1))
    (H : ∀ h', Wr h h' a j.toNatClampNeg (.long x) → Wk W p l e R s m args below meth c n0 Q h' k n (mkF m (pc + 1) Ls st)) : Wk W p l e R s m args below meth c n0 Q h k n (mkF m pc Ls (.long x :: .int j :: .ref a :: st)) :=
  Wk.stW C ge (fun X hZ ho eT => Jvm.RoadKit.stJ X C.hx hZ eT A hj (g := mkF m pc Ls (.long x :: .int j :: .ref a :: st)) rfl rfl (hb C.hby hd)) H
theorem Wk.stR (C : Cx Z p s m meth c y bytes maxL ret) {a : Addr} {cl : Cell} {ty : FieldType} (A : Arr Z h a cl ty) {j : Int32} {v : Value} (hj : ¬ (j < 0 ∨ cl.slots.size ≤ j.toNatClampNeg)) (hty : ty.isReference = true) (F : Sto Z h a v) (ge : n0 ≤ a) {pc : Nat} {Ls : Array Slot} {st : List Value} (hd : decode bytes pc = .ok (.aastore, 1))
    (H : ∀ h', Wr h h' a j.toNatClampNeg v → Wk W p l e R s m args below meth c n0 Q h' k n (mkF m (pc + 1) Ls st)) : Wk W p l e R s m args below meth c n0 Q h k n (mkF m pc Ls (v :: .int j :: .ref a :: st)) :=
  Wk.stW C ge (fun X hZ ho eT => Jvm.RoadKit.stR X C.hx hZ eT A hj hty F (g := mkF m pc Ls (v :: .int j :: .ref a :: st)) rfl rfl (hb C.hby hd)) H
theorem Wk.len (C : Cx Z p s m meth c y bytes maxL ret) {a : Addr} {cl : Cell} {ty : FieldType} (A : Arr Z h a cl ty) {pc : Nat} {Ls : Array Slot} {st : List Value} (hd : decode bytes pc = .ok (.arraylength, 1))
    (H : Wk W p l e R s m args below meth c n0 Q h k n (mkF m (pc + 1) Ls (.int cl.slots.size.toInt32 :: st))) : Wk W p l e R s m args below meth c n0 Q h k n (mkF m pc Ls (.ref a :: st)) :=
  Wk.stZ C (fun X hZ ho eT => ⟨_, X, eT, X.arraylength C.hx (by rw [eT]; exact A.1) (State.isArrayOf_alike hZ.alike A.2.1) (g := mkF m pc Ls (.ref a :: st)) rfl rfl (hb C.hby hd)⟩) H
theorem Wk.ldI (C : Cx Z p s m meth c y bytes maxL ret) {a : Addr} {cl : Cell} (A : Arr Z h a cl .int) {j : Int32} {v : Value} (hj : ¬ (j < 0 ∨ cl.slots.size ≤ j.toNatClampNeg)) (hv : cl.slots[j.toNatClampNeg]? = some v) {pc : Nat} {Ls : Array Slot} {st : List Value} (hd : decode bytes pc = .ok (.iaload, 1))
    (H : Wk W p l e R s m args below meth c n0 Q h k n (mkF m (pc + 1) Ls (v :: st))) : Wk W p l e R s m args below meth c n0 Q h k n (mkF m pc Ls (.int j :: .ref a :: st)) :=
  Wk.stZ C (fun X hZ ho eT => ⟨_, X, eT, X.iaload C.hx (by rw [eT]; exact A.1) (State.isArrayOf_alike hZ.alike A.2.1) A.2.2 hj hv (g := mkF m pc Ls (.int j :: .ref a :: st)) rfl rfl (hb C.hby hd)⟩) H
theorem Wk.ldJ (C : Cx Z p s m meth c y bytes maxL ret) {a : Addr} {cl : Cell} (A : Arr Z h a cl .long) {j : Int32} {v : Value} (hj : ¬ (j < 0 ∨ cl.slots.size ≤ j.toNatClampNeg)) (hv : cl.slots[j.toNatClampNeg]? = some v) {pc : Nat} {Ls : Array Slot} {st : List Value} (hd : decode bytes pc = .ok (.laload, 1))
    (H : Wk W p l e R s m args below meth c n0 Q h k n (mkF m (pc + 1) Ls (v :: st))) : Wk W p l e R s m args below meth c n0 Q h k n (mkF m pc Ls (.int j :: .ref a :: st)) :=
  Wk.stZ C (fun X hZ ho eT => ⟨_, X, eT, X.laload C.hx (by rw [eT]; exact A.1) (State.isArrayOf_alike hZ.alike A.2.1) A.2.2 hj hv (g := mkF m pc Ls (.int j :: .ref a :: st)) rfl rfl (hb C.hby hd)⟩) H
theorem Wk.ldR (C : Cx Z p s m meth c y bytes maxL ret) {a : Addr} {cl : Cell} {ty : FieldType} (A : Arr Z h a cl ty) (hty : ty.isReference = true) {j : Int32} {v : Value} (hj : ¬ (j < 0 ∨ cl.slots.size ≤ j.toNatClampNeg)) (hv : cl.slots[j.toNatClampNeg]? = some v) {pc : Nat} {Ls : Array Slot} {st : List Value} (hd : decode bytes pc = .ok (.aaload, 1))
    (H : Wk W p l e R s m args below meth c n0 Q h k n (mkF m (pc + 1) Ls (v :: st))) : Wk W p l e R s m args below meth c n0 Q h k n (mkF m pc Ls (.int j :: .ref a :: st)) :=
  Wk.stZ C (fun X hZ ho eT => ⟨_, X, eT, X.aaload C.hx (by rw [eT]; exact A.1) (State.isArrayOf_alike hZ.alike A.2.1) hty A.2.2 hj hv (g := mkF m pc Ls (.int j :: .ref a :: st)) rfl rfl (hb C.hby hd)⟩) H
theorem Wk.ldZ (C : Cx Z p s m meth c y bytes maxL ret) {a : Addr} {cl : Cell} (A : Arr Z h a cl .boolean) {j : Int32} {v : Value} (hj : ¬ (j < 0 ∨ cl.slots.size ≤ j.toNatClampNeg)) (hv : cl.slots[j.toNatClampNeg]? = some v) {pc : Nat} {Ls : Array Slot} {st : List Value} (hd : decode bytes pc = .ok (.baload, 1))
    (H : Wk W p l e R s m args below meth c n0 Q h k n (mkF m (pc + 1) Ls (v :: st))) : Wk W p l e R s m args below meth c n0 Q h k n (mkF m pc Ls (.int j :: .ref a :: st)) :=
  Wk.stZ C (fun X hZ ho eT => ⟨_, X, eT, X.baloadBooleans C.hx (by rw [eT]; exact A.1) (State.isArrayOf_alike hZ.alike A.2.1) A.2.2 hj hv (g := mkF m pc Ls (.int j :: .ref a :: st)) rfl rfl (hb C.hby hd)⟩) H
theorem Wk.ldC (C : Cx Z p s m meth c y bytes maxL ret) {a : Addr} {cl : Cell} (A : Arr Z h a cl .char) {j : Int32} {v : Value} (hj : ¬ (j < 0 ∨ cl.slots.size ≤ j.toNatClampNeg)) (hv : cl.slots[j.toNatClampNeg]? = some v) {pc : Nat} {Ls : Array Slot} {st : List Value} (hd : decode bytes pc = .ok (.caload, 1))
    (H : Wk W p l e R s m args below meth c n0 Q h k n (mkF m (pc + 1) Ls (v :: st))) : Wk W p l e R s m args below meth c n0 Q h k n (mkF m pc Ls (.int j :: .ref a :: st)) :=
  Wk.stZ C (fun X hZ ho eT => ⟨_, X, eT, X.caload C.hx (by rw [eT]; exact A.1) (State.isArrayOf_alike hZ.alike A.2.1) A.2.2 hj hv (g := mkF m pc Ls (.int j :: .ref a :: st)) rfl rfl (hb C.hby hd)⟩) H
theorem Wk.ldB (C : Cx Z p s m meth c y bytes maxL ret) {a : Addr} {cl : Cell} (A : Arr Z h a cl .byte) {j : Int32} {v : Value} (hj : ¬ (j < 0 ∨ cl.slots.size ≤ j.toNatClampNeg)) (hv : cl.slots[j.toNatClampNeg]? = some v) {pc : Nat} {Ls : Array Slot} {st : List Value} (hd : decode bytes pc = .ok (.baload, 1))
    (H : Wk W p l e R s m args below meth c n0 Q h k n (mkF m (pc + 1) Ls (v :: st))) : Wk W p l e R s m args below meth c n0 Q h k n (mkF m pc Ls (.int j :: .ref a :: st)) :=
  Wk.stZ C (fun X hZ ho eT => ⟨_, X, eT, X.baloadBytes C.hx (by rw [eT]; exact A.1) (State.isArrayOf_alike hZ.alike A.2.1) A.2.2 hj hv (g := mkF m pc Ls (.int j :: .ref a :: st)) rfl rfl (hb C.hby hd)⟩) H
theorem Wk.stZb (C : Cx Z p s m meth c y bytes maxL ret) {a : Addr} {cl : Cell} (A : Arr Z h a cl .boolean) {j x : Int32} (hj : ¬ (j < 0 ∨ cl.slots.size ≤ j.toNatClampNeg)) (ge : n0 ≤ a) {pc : Nat} {Ls : Array Slot} {st : List Value} (hd : decode bytes pc = .ok (.bastore, 1))
    (H : ∀ h', Wr h h' a j.toNatClampNeg (.int (nar .boolean x)) → Wk W p l e R s m args below meth c n0 Q h' k n (mkF m (pc + 1) Ls st)) : Wk W p l e R s m args below meth c n0 Q h k n (mkF m pc Ls (.int x :: .int j :: .ref a :: st)) :=
  Wk.stW C ge (fun X hZ ho eT => Jvm.RoadKit.stZ X C.hx hZ eT A hj (g := mkF m pc Ls (.int x :: .int j :: .ref a :: st)) rfl rfl (hb C.hby hd)) H
theorem Wk.stB (C : Cx Z p s m meth c y bytes maxL ret) {a : Addr} {cl : Cell} (A : Arr Z h a cl .byte) {j x : Int32} (hj : ¬ (j < 0 ∨ cl.slots.size ≤ j.toNatClampNeg)) (ge : n0 ≤ a) {pc : Nat} {Ls : Array Slot} {st : List Value} (hd : decode bytes pc = .ok (.bastore, 1))
    (H : ∀ h', Wr h h' a j.toNatClampNeg (.int (nar .byte x)) → Wk W p l e R s m args below meth c n0 Q h' k n (mkF m (pc + 1) Ls st)) : Wk W p l e R s m args below meth c n0 Q h k n (mkF m pc Ls (.int x :: .int j :: .ref a :: st)) :=
  Wk.stW C ge (fun X hZ ho eT => Jvm.RoadKit.stB X C.hx hZ eT A hj (g := mkF m pc Ls (.int x :: .int j :: .ref a :: st)) rfl rfl (hb C.hby hd)) H
theorem Wk.stC (C : Cx Z p s m meth c y bytes maxL ret) {a : Addr} {cl : Cell} (A : Arr Z h a cl .char) {j x : Int32} (hj : ¬ (j < 0 ∨ cl.slots.size ≤ j.toNatClampNeg)) (ge : n0 ≤ a) {pc : Nat} {Ls : Array Slot} {st : List Value} (hd : decode bytes pc = .ok (.castore, 1))
    (H : ∀ h', Wr h h' a j.toNatClampNeg (.int (nar .char x)) → Wk W p l e R s m args below meth c n0 Q h' k n (mkF m (pc + 1) Ls st)) : Wk W p l e R s m args below meth c n0 Q h k n (mkF m pc Ls (.int x :: .int j :: .ref a :: st)) :=
  Wk.stW C ge (fun X hZ ho eT => Jvm.RoadKit.stC X C.hx hZ eT A hj (g := mkF m pc Ls (.int x :: .int j :: .ref a :: st)) rfl rfl (hb C.hby hd)) H
theorem Wk.initO (C : Cx Z p s m meth c y bytes maxL ret) {index : Nat} (w1 : (Cond.methodLink y.cls index Lib.objectInit).before a0 Z = true) (w2 : (Cond.instanceMethod Lib.objectInit).before a0 Z = true) (w3 : (Cond.code Lib.objectInit ⟨#[0xb1]⟩ 1 none).before a0 Z = true) {a : Addr} {w : Nat} {pc : Nat} {Ls : Array Slot} {st : List Value} (hls : Ls.size = maxL) (hd : decode bytes pc = .ok (.invokespecial index, 3)) (hf : 1 ≤ R.frames) (hw : (st.map fun v => v.category).sum ≤ w) (hl : w + 12 ≤ R.locals)
    (H : Wk W p l e R s m args below meth c n0 Q h k n (mkF m (pc + 3) Ls st)) : Wk W p l e R s m args below meth c n0 Q h k n (mkF m pc Ls (.ref a :: st)) :=
  Wk.stZ C (fun X hZ ho eT => Jvm.RoadKit.initO X C.hx hZ ho w1 w2 w3 eT (g := mkF m pc Ls (.ref a :: st)) rfl (hls.trans C.hml.symm) rfl (hb C.hby hd) hf (W := w) (by show 2 * 0 + _ ≤ _; omega) hl) H
theorem Wk.retV (C : Cx Z p s m meth c y bytes maxL ret) {pc : Nat} {Ls : Array Slot} {w : Value} {t : FieldType} {i : Instr} {rest : List Value} (ht : ret = some t) (hn : narrow t w = w)
    (hi : (i = .ireturn ∧ (t = .int ∨ t = .boolean ∨ t = .byte ∨ t = .char ∨ t = .short) ∧ ∃ z, w = .int z) ∨ (i = .lreturn ∧ t = .long ∧ ∃ z, w = .long z) ∨ (i = .dreturn ∧ t = .double ∧ ∃ z, w = .double z) ∨ (i = .freturn ∧ t = .float ∧ ∃ z, w = .float z) ∨ (i = .areturn ∧ t.isReference = true ∧ w.isRef = true))
    (hd : decode bytes pc = .ok (i, 1)) (hk : k ≤ R.cells) (hs : n ≤ R.slots) (hq : Q (some w) h) : Wk W p l e R s m args below meth c n0 Q h k n (mkF m pc Ls (w :: rest)) := by
  intro T L vm0 X B eT N
  have hlk := C.hlk
  have hv : meth.sig.returnType = none → (some w : Option Value) = none := fun h => by rw [C.hret, ht] at h; cases h
  cases W
  · cases (B : vm0 = s.vm)
    obtain ⟨fs, hr, hrun, hended, hW, hsame⟩ := Stand.leave (s := s) X (v := some w) hv hlk
    refine ⟨_, _, retOut X C.hx (C.hret.trans ht) hn hi (hb C.hby hd) hr, hrun, hended, _, L, rfl, ⟨?_, N⟩, ⟨_, rfl⟩, hW, hsame.mono hk hs⟩
    show Q (some w) T.heap
    rw [eT]; exact hq
  · obtain ⟨k0, hS, hk0⟩ := (B : ∃ k0, s.Since vm0 k0 ∧ k0 ≤ h.size)
    obtain ⟨fs, hr, hrun, hended, hE⟩ := X.leaveW hS (by rw [eT]; exact hk0) (v := some w) hv hlk
    refine ⟨_, _, retOut X C.hx (C.hret.trans ht) hn hi (hb C.hby hd) hr, hrun, hended, _, L, rfl, ⟨?_, N⟩, hE.1, hE.2.1, hE.2.2.1, hE.2.2.2.mono hk hs⟩
    show Q (some w) T.heap
    rw [eT]; exact hq
theorem Wk.retN0 (C : Cx Z p s m meth c y bytes maxL ret) {pc : Nat} {Ls : Array Slot} (ht : ret = none) (hd : decode bytes pc = .ok (.return_, 1)) (hk : k ≤ R.cells) (hs : n ≤ R.slots) (hq : Q none h) : Wk W p l e R s m args below meth c n0 Q h k n (mkF m pc Ls []) := by
  intro T L vm0 X B eT N
  have hlk := C.hlk
  have hv : meth.sig.returnType = none → (none : Option Value) = none := fun _ => rfl
  cases W
  · cases (B : vm0 = s.vm)
    obtain ⟨fs, hr, hrun, hended, hW, hsame⟩ := Stand.leave (s := s) X (v := none) hv hlk
    refine ⟨_, _, X.returnOut C.hx (C.hret.trans ht) (hb C.hby hd) hr, hrun, hended, _, L, rfl, ⟨?_, N⟩, ⟨_, rfl⟩, hW, hsame.mono hk hs⟩
    show Q none T.heap
    rw [eT]; exact hq
  · obtain ⟨k0, hS, hk0⟩ := (B : ∃ k0, s.Since vm0 k0 ∧ k0 ≤ h.size)
    obtain ⟨fs, hr, hrun, hended, hE⟩ := X.leaveW hS (by rw [eT]; exact hk0) (v := none) hv hlk
    refine ⟨_, _, X.returnOut C.hx (C.hret.trans ht) (hb C.hby hd) hr, hrun, hended, _, L, rfl, ⟨?_, N⟩, hE.1, hE.2.1, hE.2.2.1, hE.2.2.2.mono hk hs⟩
    show Q none T.heap
    rw [eT]; exact hq
/-- the three calls, by the callee's contract -/
theorem Wk.callS (C : Cx Z p s m meth c y bytes maxL ret) {z : MethodName} {index : Nat} {bz : ByteArray} {mz : Nat} {rz : Option FieldType} {rm : Room} {asL : List Value} {Qz : Option Value → Heap → Prop}
    (w1 : (Cond.methodLink y.cls index z).before a0 Z = true) (w2 : (Cond.static z).before a0 Z = true) (w3 : (Cond.initialized z.cls).before a0 Z = true) (w4 : (Cond.code z bz mz rz).before a0 Z = true)
    (hz : z.cls ≠ "java/lang/invoke/MethodHandle" ∧ z.cls ≠ "java/lang/invoke/VarHandle") (M : Met W l Z n0 z bz mz rz rm asL.toArray h Qz) {w : Nat} (hf : rm.frames + 1 ≤ R.frames) (hl : w + (mz + 11) + rm.locals ≤ R.locals)
    {ps : List FieldType} {r : Option FieldType} (hlen : parseMethodDescriptor z.desc = some ⟨ps, r⟩) (hps : asL.length = ps.length) {pc : Nat} {Ls : Array Slot} {st rest : List Value} (hls : Ls.size = maxL) (hst : st = asL.reverse ++ rest) (hw : (rest.map fun v => v.category).sum ≤ w)
    (hc : k + rm.cells ≤ R.cells) (hs : n + rm.slots ≤ R.slots) (hd : decode bytes pc = .ok (.invokestatic index, 3))
    (H : ∀ v h', Qz v h' → Wk W p l e R s m args below meth c n0 Q h' (k + rm.cells) (n + rm.slots) (mkF m (pc + 3) Ls (v.toList ++ rest))) : Wk W p l e R s m args below meth c n0 Q h k n (mkF m pc Ls st) := by
  intro T L vm0 X B eT N
  subst hst
  have hZ := C.wZ B
  have ho := C.wo B
  have hw' : 2 * (mkF m pc Ls (asL.reverse ++ rest)).monitorRoom + (rest.map fun v => v.category).sum ≤ w := by show 2 * 0 + _ ≤ _; omega
  cases W
  · obtain ⟨v, vm₁, ⟨T', L', k', n'⟩, -, X', ⟨Lc, hQ, l1, y1, z1⟩, st⟩ := Jvm.LawKit.callS X C.hx ho (mvT hZ w1) (mvT hZ w2) (mvT hZ w3) (mvT hZ w4) hz (backOf (W := w) (Q := fun v h L => Qz v h ∧ Fr n0 L) (M []) hZ w4 w3 hf hl) (g := mkF m pc Ls (asL.reverse ++ rest)) rfl (hls.trans C.hml.symm) (argsL := asL) (rest := rest) (lenOf hlen hps) rfl hw' (hb C.hby hd) (fun _ _ => ⟨rfl, eT, hc, hs⟩)
    dsimp only [Pt.U, Pt.locs, Pt.cells, Pt.slots] at X' l1 y1 z1 st hQ
    subst l1 y1 z1
    obtain ⟨s₂, o, h1, h2⟩ := H v T'.heap hQ.1 T' _ vm0 X' (B : vm0 = s.vm) rfl (N.app hQ.2)
    exact ⟨s₂, o, st _ h1, h2⟩
  · obtain ⟨v, vm₁, ⟨T', L', k', n'⟩, -, X', hS', hgr, ⟨Lc, hQ, l1, y1, z1⟩, st⟩ := callSS X C.hx ho (mvT hZ w1) (mvT hZ w2) (mvT hZ w3) (mvT hZ w4) hz (backOfS (W := w) (Q := fun v h L => Qz v h ∧ Fr n0 L) (M []) hZ w4 w3 hf hl) (g := mkF m pc Ls (asL.reverse ++ rest)) rfl (hls.trans C.hml.symm) (argsL := asL) (rest := rest) (lenOf hlen hps) rfl hw' (hb C.hby hd) (fun _ _ => ⟨rfl, eT, hc, hs⟩)
    dsimp only [Pt.U, Pt.locs, Pt.cells, Pt.slots] at X' hS' hgr l1 y1 z1 st hQ
    subst l1 y1 z1
    obtain ⟨k0, hS, hk0⟩ := (B : ∃ k0, s.Since vm0 k0 ∧ k0 ≤ h.size)
    obtain ⟨s₂, o, h1, h2⟩ := H v T'.heap hQ.1 T' _ T'.vm X' ⟨_, foldS hS (by rw [eT]; exact hk0) hS' hgr, Nat.le_refl _⟩ rfl (N.app hQ.2)
    exact ⟨s₂, o, st.trans h1, h2⟩
theorem Wk.callI (C : Cx Z p s m meth c y bytes maxL ret) {z : MethodName} {index : Nat} {bz : ByteArray} {mz : Nat} {rm : Room} {a : Addr} {asL : List Value} {Qz : Option Value → Heap → Prop} (hz1 : z.name = "<init>")
    (w1 : (Cond.methodLink y.cls index z).before a0 Z = true) (w2 : (Cond.instanceMethod z).before a0 Z = true) (w3 : (Cond.initialized z.cls).before a0 Z = true) (w4 : (Cond.code z bz mz none).before a0 Z = true)
    (hz : z.cls ≠ "java/lang/invoke/MethodHandle" ∧ z.cls ≠ "java/lang/invoke/VarHandle") (M : Met W l Z n0 z bz mz none rm (.ref a :: asL).toArray h Qz) {w : Nat} (hf : rm.frames + 1 ≤ R.frames) (hl : w + (mz + 11) + rm.locals ≤ R.locals)
    {ps : List FieldType} {r : Option FieldType} (hlen : parseMethodDescriptor z.desc = some ⟨ps, r⟩) (hps : asL.length = ps.length) {pc : Nat} {Ls : Array Slot} {st rest : List Value} (hls : Ls.size = maxL) (hst : st = asL.reverse ++ .ref a :: rest) (hw : (rest.map fun v => v.category).sum ≤ w)
    (hc : k + rm.cells ≤ R.cells) (hs : n + rm.slots ≤ R.slots) (hd : decode bytes pc = .ok (.invokespecial index, 3))
    (H : ∀ v h', Qz v h' → Wk W p l e R s m args below meth c n0 Q h' (k + rm.cells) (n + rm.slots) (mkF m (pc + 3) Ls (v.toList ++ rest))) : Wk W p l e R s m args below meth c n0 Q h k n (mkF m pc Ls st) := by
  intro T L vm0 X B eT N
  subst hst
  have hZ := C.wZ B
  have ho := C.wo B
  have hw' : 2 * (mkF m pc Ls (asL.reverse ++ .ref a :: rest)).monitorRoom + (rest.map fun v => v.category).sum ≤ w := by show 2 * 0 + _ ≤ _; omega
  cases W
  · obtain ⟨v, vm₁, ⟨T', L', k', n'⟩, -, X', ⟨Lc, hQ, l1, y1, z1⟩, st⟩ := X.specialBack C.hx hz1 ho (mvT hZ w1) (mvT hZ w2) (mvT hZ w4) hz (backOf (W := w) (Q := fun v h L => Qz v h ∧ Fr n0 L) (M []) hZ w4 w3 hf hl) (g := mkF m pc Ls (asL.reverse ++ .ref a :: rest)) rfl (hls.trans C.hml.symm) (Steps.refl _) (a := a) (argsL := asL) (rest := rest) (lenOf hlen hps) rfl hw' (hb C.hby hd) (fun _ _ => ⟨rfl, eT, hc, hs⟩)
    dsimp only [Pt.U, Pt.locs, Pt.cells, Pt.slots] at X' l1 y1 z1 st hQ
    subst l1 y1 z1
    obtain ⟨s₂, o, h1, h2⟩ := H v T'.heap hQ.1 T' _ vm0 X' (B : vm0 = s.vm) rfl (N.app hQ.2)
    exact ⟨s₂, o, st.trans h1, h2⟩
  · obtain ⟨v, vm₁, ⟨T', L', k', n'⟩, -, X', hS', hgr, ⟨Lc, hQ, l1, y1, z1⟩, st⟩ := X.specialBackS C.hx hz1 ho (mvT hZ w1) (mvT hZ w2) (mvT hZ w4) hz (backOfS (W := w) (Q := fun v h L => Qz v h ∧ Fr n0 L) (M []) hZ w4 w3 hf hl) (g := mkF m pc Ls (asL.reverse ++ .ref a :: rest)) rfl (hls.trans C.hml.symm) (Steps.refl _) (a := a) (argsL := asL) (rest := rest) (lenOf hlen hps) rfl hw' (hb C.hby hd) (fun _ _ => ⟨rfl, eT, hc, hs⟩)
    dsimp only [Pt.U, Pt.locs, Pt.cells, Pt.slots] at X' hS' hgr l1 y1 z1 st hQ
    subst l1 y1 z1
    obtain ⟨k0, hS, hk0⟩ := (B : ∃ k0, s.Since vm0 k0 ∧ k0 ≤ h.size)
    obtain ⟨s₂, o, h1, h2⟩ := H v T'.heap hQ.1 T' _ T'.vm X' ⟨_, foldS hS (by rw [eT]; exact hk0) hS' hgr, Nat.le_refl _⟩ rfl (N.app hQ.2)
    exact ⟨s₂, o, st.trans h1, h2⟩
theorem Wk.callV (C : Cx Z p s m meth c y bytes maxL ret) {x z : MethodName} {K : String} {index : Nat} {bz : ByteArray} {mz : Nat} {rz : Option FieldType} {rm : Room} {a : Addr} {asL : List Value} {Qz : Option Value → Heap → Prop}
    (w1 : (Cond.methodLink y.cls index x).before a0 Z = true) (w2 : (Cond.declares x).before a0 Z = true) (w5 : (Cond.selects K x z).before a0 Z = true) (w6 : (Cond.instanceMethod z).before a0 Z = true) (w3 : (Cond.initialized z.cls).before a0 Z = true) (w4 : (Cond.code z bz mz rz).before a0 Z = true)
    (hz : x.cls ≠ "java/lang/invoke/MethodHandle" ∧ x.cls ≠ "java/lang/invoke/VarHandle") (hnf : ∀ s' : State, Z.Warmed39 s'.vm → NotFace s' x) (E : Exa Z h a K) (M : Met W l Z n0 z bz mz rz rm (.ref a :: asL).toArray h Qz) {w : Nat} (hf : rm.frames + 1 ≤ R.frames) (hl : w + (mz + 11) + rm.locals ≤ R.locals)
    {ps : List FieldType} {r : Option FieldType} (hlen : parseMethodDescriptor x.desc = some ⟨ps, r⟩) (hps : asL.length = ps.length) {pc : Nat} {Ls : Array Slot} {st rest : List Value} (hls : Ls.size = maxL) (hst : st = asL.reverse ++ .ref a :: rest) (hw : (rest.map fun v => v.category).sum ≤ w)
    (hc : k + rm.cells ≤ R.cells) (hs : n + rm.slots ≤ R.slots) (hd : decode bytes pc = .ok (.invokevirtual index, 3))
    (H : ∀ v h', Qz v h' → Wk W p l e R s m args below meth c n0 Q h' (k + rm.cells) (n + rm.slots) (mkF m (pc + 3) Ls (v.toList ++ rest))) : Wk W p l e R s m args below meth c n0 Q h k n (mkF m pc Ls st) := by
  intro T L vm0 X B eT N
  subst hst
  have hZ := C.wZ B
  have ho := C.wo B
  have hw' : 2 * (mkF m pc Ls (asL.reverse ++ .ref a :: rest)).monitorRoom + (rest.map fun v => v.category).sum ≤ w := by show 2 * 0 + _ ≤ _; omega
  obtain ⟨cq, kq, qa, qb, qc⟩ := isOf hZ eT E
  cases W
  · obtain ⟨v, vm₁, ⟨T', L', k', n'⟩, -, X', ⟨Lc, hQ, l1, y1, z1⟩, st⟩ := X.virtualBack C.hx (y := x) (z := z) ho (mvT hZ w1) (mvT hZ w2) (hnf _ hZ) (mvT hZ w5) (mvT hZ w6) hz (backOf (W := w) (Q := fun v h L => Qz v h ∧ Fr n0 L) (M []) hZ w4 w3 hf hl) qa qc (g := mkF m pc Ls (asL.reverse ++ .ref a :: rest)) rfl (hls.trans C.hml.symm) (Steps.refl _) (argsL := asL) (rest := rest) (lenOf hlen hps) rfl hw' (hb C.hby hd) (fun _ _ => ⟨rfl, eT, hc, hs⟩)
    dsimp only [Pt.U, Pt.locs, Pt.cells, Pt.slots] at X' l1 y1 z1 st hQ
    subst l1 y1 z1
    obtain ⟨s₂, o, h1, h2⟩ := H v T'.heap hQ.1 T' _ vm0 X' (B : vm0 = s.vm) rfl (N.app hQ.2)
    exact ⟨s₂, o, st.trans h1, h2⟩
  · obtain ⟨v, vm₁, ⟨T', L', k', n'⟩, -, X', hS', hgr, ⟨Lc, hQ, l1, y1, z1⟩, st⟩ := X.virtualBackS C.hx (y := x) (z := z) ho (mvT hZ w1) (mvT hZ w2) (hnf _ hZ) (mvT hZ w5) (mvT hZ w6) hz (backOfS (W := w) (Q := fun v h L => Qz v h ∧ Fr n0 L) (M []) hZ w4 w3 hf hl) qa qc (g := mkF m pc Ls (asL.reverse ++ .ref a :: rest)) rfl (hls.trans C.hml.symm) (Steps.refl _) (argsL := asL) (rest := rest) (lenOf hlen hps) rfl hw' (hb C.hby hd) (fun _ _ => ⟨rfl, eT, hc, hs⟩)
    dsimp only [Pt.U, Pt.locs, Pt.cells, Pt.slots] at X' hS' hgr l1 y1 z1 st hQ
    subst l1 y1 z1
    obtain ⟨k0, hS, hk0⟩ := (B : ∃ k0, s.Since vm0 k0 ∧ k0 ≤ h.size)
    obtain ⟨s₂, o, h1, h2⟩ := H v T'.heap hQ.1 T' _ T'.vm X' ⟨_, foldS hS (by rw [eT]; exact hk0) hS' hgr, Nat.le_refl _⟩ rfl (N.app hQ.2)
    exact ⟨s₂, o, st.trans h1, h2⟩
theorem Wk.callU (C : Cx Z p s m meth c y bytes maxL ret) {x z : MethodName} {K owner : String} {index : Nat} {bz : ByteArray} {mz : Nat} {rz : Option FieldType} {rm : Room} {a : Addr} {asL : List Value} {Qz : Option Value → Heap → Prop}
    (w1 : (Cond.methodLink y.cls index x).before a0 Z = true) (w7 : (Cond.sameMethod x.cls owner x.name x.desc).before a0 Z = true) (w2 : (Cond.declares ⟨owner, x.name, x.desc⟩).before a0 Z = true) (w5 : (Cond.selects K x z).before a0 Z = true) (w6 : (Cond.instanceMethod z).before a0 Z = true) (w3 : (Cond.initialized z.cls).before a0 Z = true) (w4 : (Cond.code z bz mz rz).before a0 Z = true)
    (hz : owner ≠ "java/lang/invoke/MethodHandle" ∧ owner ≠ "java/lang/invoke/VarHandle") (E : Exa Z h a K) (M : Met W l Z n0 z bz mz rz rm (.ref a :: asL).toArray h Qz) {w : Nat} (hf : rm.frames + 1 ≤ R.frames) (hl : w + (mz + 11) + rm.locals ≤ R.locals)
    {ps : List FieldType} {r : Option FieldType} (hlen : parseMethodDescriptor x.desc = some ⟨ps, r⟩) (hps : asL.length = ps.length) {pc : Nat} {Ls : Array Slot} {st rest : List Value} (hls : Ls.size = maxL) (hst : st = asL.reverse ++ .ref a :: rest) (hw : (rest.map fun v => v.category).sum ≤ w)
    (hc : k + rm.cells ≤ R.cells) (hs : n + rm.slots ≤ R.slots) (hd : decode bytes pc = .ok (.invokevirtual index, 3))
    (H : ∀ v h', Qz v h' → Wk W p l e R s m args below meth c n0 Q h' (k + rm.cells) (n + rm.slots) (mkF m (pc + 3) Ls (v.toList ++ rest))) : Wk W p l e R s m args below meth c n0 Q h k n (mkF m pc Ls st) := by
  intro T L vm0 X B eT N
  subst hst
  have hZ := C.wZ B
  have ho := C.wo B
  have hw' : 2 * (mkF m pc Ls (asL.reverse ++ .ref a :: rest)).monitorRoom + (rest.map fun v => v.category).sum ≤ w := by show 2 * 0 + _ ≤ _; omega
  obtain ⟨cq, kq, qa, qb, qc⟩ := isOf hZ eT E
  cases W
  · obtain ⟨v, vm₁, ⟨T', L', k', n'⟩, -, X', ⟨Lc, hQ, l1, y1, z1⟩, st⟩ := X.virtualBackUp C.hx (x := x) (y := z) ho (mvT hZ w1) (mvT hZ w7) (mvT hZ w2) hz (mvT hZ w5) (mvT hZ w6) (backOf (W := w) (Q := fun v h L => Qz v h ∧ Fr n0 L) (M []) hZ w4 w3 hf hl) qa qc (g := mkF m pc Ls (asL.reverse ++ .ref a :: rest)) rfl (hls.trans C.hml.symm) (Steps.refl _) (argsL := asL) (rest := rest) (lenOf hlen hps) rfl hw' (hb C.hby hd) (fun _ _ => ⟨rfl, eT, hc, hs⟩)
    dsimp only [Pt.U, Pt.locs, Pt.cells, Pt.slots] at X' l1 y1 z1 st hQ
    subst l1 y1 z1
    obtain ⟨s₂, o, h1, h2⟩ := H v T'.heap hQ.1 T' _ vm0 X' (B : vm0 = s.vm) rfl (N.app hQ.2)
    exact ⟨s₂, o, st.trans h1, h2⟩
  · obtain ⟨v, vm₁, ⟨T', L', k', n'⟩, -, X', hS', hgr, ⟨Lc, hQ, l1, y1, z1⟩, st⟩ := X.virtualBackUpS C.hx (x := x) (y := z) ho (mvT hZ w1) (mvT hZ w7) (mvT hZ w2) hz (mvT hZ w5) (mvT hZ w6) (backOfS (W := w) (Q := fun v h L => Qz v h ∧ Fr n0 L) (M []) hZ w4 w3 hf hl) qa qc (g := mkF m pc Ls (asL.reverse ++ .ref a :: rest)) rfl (hls.trans C.hml.symm) (Steps.refl _) (argsL := asL) (rest := rest) (lenOf hlen hps) rfl hw' (hb C.hby hd) (fun _ _ => ⟨rfl, eT, hc, hs⟩)
    dsimp only [Pt.U, Pt.locs, Pt.cells, Pt.slots] at X' hS' hgr l1 y1 z1 st hQ
    subst l1 y1 z1
    obtain ⟨k0, hS, hk0⟩ := (B : ∃ k0, s.Since vm0 k0 ∧ k0 ≤ h.size)
    obtain ⟨s₂, o, h1, h2⟩ := H v T'.heap hQ.1 T' _ T'.vm X' ⟨_, foldS hS (by rw [eT]; exact hk0) hS' hgr, Nat.le_refl _⟩ rfl (N.app hQ.2)
    exact ⟨s₂, o, st.trans h1, h2⟩
theorem Wk.ldcS (C : Cx Z p s m meth c y bytes maxL ret) {index : Nat} {text : String} (w : (Cond.stringLink y.cls index text).before a0 Z = true) (wS : ∀ d ∈ Bundle.stringAtoms, d.before a0 Z = true) {N : Nat} (hn : 4 * text.toList.length ≤ N) (hbig : N ≤ 536870912) {pc : Nat} {Ls : Array Slot} {st : List Value} (hd : decode bytes pc = .ok (.ldc index, 2)) (hc : k + 2 ≤ R.cells) (hl : n + (N + 4) ≤ R.slots)
    (H : ∀ h' a, Ext h h' → Wk true p l e R s m args below meth c n0 Q h' (k + 2) (n + (N + 4)) (mkF m (pc + 2) Ls (.ref a :: st))) : Wk true p l e R s m args below meth c n0 Q h k n (mkF m pc Ls st) := by
  intro T L vm0 X B eT N'
  have hZ := C.wZ B
  have ho := C.wo B
  obtain ⟨k0, hS, hk0⟩ := (B : ∃ k0, s.Since vm0 k0 ∧ k0 ≤ h.size)
  obtain ⟨a, T', h', k1, X', e', E, hS', hk1, -, -, st⟩ := Jvm.RoadKit.ldcS X C.hx hZ ho w wS eT hS hk0 (g := mkF m pc Ls st) rfl (hb C.hby hd) hn hbig hc hl
  obtain ⟨s₂, o, h1, h2⟩ := H h' a E T' L T'.vm X' ⟨k1, hS', hk1⟩ e' N'
  exact ⟨s₂, o, st _ h1, h2⟩
end Rules
theorem ext_trans {h h' h'' : Heap} (E : Ext h h') (E' : Ext h' h'') : Ext h h'' := ⟨Nat.le_trans E.1 E'.1, fun a c q => E'.2 a c (E.2 a c q)⟩
theorem ext_refl (h : Heap) : Ext h h := ⟨Nat.le_refl _, fun _ _ q => q⟩
end Jvm.Own
namespace Jvm.Own
open Jvm Jvm.ClassFile Sem Op Lib Jvm.Free Jvm.Stand Jvm.LawKit Jvm.RoadKit
/-! statics that hold objects, told apart by a field -/
theorem stat_exa {args : Array Value} {s : State} {C n d K : String} (wi : (Cond.initialized C).before args s = true) (wl : (Cond.laysStatic C n d).before args s = true) (hx : (Cond.exactly (Term.static C n d) K).value args s none s [] = some true) :
    ∃ a, (Term.static C n d).eval args s none [] s = some (.ref a) ∧ Sta s s.heap C n d (.ref a) ∧ Exa s s.heap a K := by
  obtain ⟨a, ev⟩ := exa_v hx
  exact ⟨a, ev, Sta.start ev (Or.inr ⟨wi, wl⟩), Exa.start ev hx⟩
theorem fld_int {args : Array Value} {s : State} {t : Term} {a : Addr} {O f d : String} {i : Int32} (ev : t.eval args s none [] s = some (.ref a)) (hq : (Cond.eq (Term.field t O f d) (Term.int i)).value args s none s [] = some true) : Fld s s.heap a O f d (.int i) := by
  refine Fld.start ?_
  obtain ⟨x, y, h1, h2, k1, k2⟩ := cmp_v (Or.inl hq)
  cases (show some (Value.int i) = some y from h2)
  obtain ⟨z, rfl⟩ := k2
  have q := gotT (show (Cond.eq (Term.field t O f d) (Term.int i)).value args s none s [] = some (decide (z = i)) by simp [Cond.value, h1, h2]) hq
  subst q
  rw [fld_at ev] at h1; exact h1
theorem fld_uniq {Z : State} {h : Heap} {a : Addr} {O f d : String} {v w : Value} (F : Fld Z h a O f d v) (G : Fld Z h a O f d w) : v = w := by
  obtain ⟨c1, cf, k, i, fd, h1, h2, -, -, -, -, h7⟩ := F
  obtain ⟨c2, cf', k', i', fd', g1, g2, -, -, -, -, g7⟩ := G
  cases h1.symm.trans g1
  cases h2.symm.trans g2
  exact Option.some.inj (h7.symm.trans g7)
theorem ne_fld {Z : State} {h : Heap} {a b : Addr} {O f d : String} {v w : Value} (F : Fld Z h a O f d v) (G : Fld Z h b O f d w) (q : v ≠ w) : a ≠ b := fun e => by
  subst e; exact q (fld_uniq F G)
theorem mod_range (p k : Int32) (d : Int) (hd : k.toInt = d) (h0 : 0 < d) : 0 ≤ ((p &&& 2147483647) % k).toInt ∧ ((p &&& 2147483647) % k).toInt < d := by
  have h1 := (c_andS p 2147483647).2.2 (by decide)
  have h2 := (c_irem (p &&& 2147483647) k d hd).1 h1
  rw [h2]
  exact ⟨Int.emod_nonneg _ (by omega), Int.emod_lt_of_pos _ h0⟩
theorem mod6 (p : Int32) : (p &&& 2147483647) % 6 = 0 ∨ (p &&& 2147483647) % 6 = 1 ∨ (p &&& 2147483647) % 6 = 2 ∨ (p &&& 2147483647) % 6 = 3 ∨ (p &&& 2147483647) % 6 = 4 ∨ (p &&& 2147483647) % 6 = 5 := by
  have h := mod_range p 6 6 (by decide) (by decide)
  generalize (p &&& 2147483647) % 6 = r at h ⊢
  have q : r.toInt = 0 ∨ r.toInt = 1 ∨ r.toInt = 2 ∨ r.toInt = 3 ∨ r.toInt = 4 ∨ r.toInt = 5 := by omega
  rcases q with q | q | q | q | q | q
  · exact Or.inl (Int32.toInt_inj.mp q)
  · exact Or.inr (Or.inl (Int32.toInt_inj.mp q))
  · exact Or.inr (Or.inr (Or.inl (Int32.toInt_inj.mp q)))
  · exact Or.inr (Or.inr (Or.inr (Or.inl (Int32.toInt_inj.mp q))))
  · exact Or.inr (Or.inr (Or.inr (Or.inr (Or.inl (Int32.toInt_inj.mp q)))))
  · exact Or.inr (Or.inr (Or.inr (Or.inr (Or.inr (Int32.toInt_inj.mp q)))))
theorem mod3 (p : Int32) : (p &&& 2147483647) % 3 = 0 ∨ (p &&& 2147483647) % 3 = 1 ∨ (p &&& 2147483647) % 3 = 2 := by
  have h := mod_range p 3 3 (by decide) (by decide)
  generalize (p &&& 2147483647) % 3 = r at h ⊢
  have q : r.toInt = 0 ∨ r.toInt = 1 ∨ r.toInt = 2 := by omega
  rcases q with q | q | q
  · exact Or.inl (Int32.toInt_inj.mp q)
  · exact Or.inr (Or.inl (Int32.toInt_inj.mp q))
  · exact Or.inr (Or.inr (Int32.toInt_inj.mp q))
end Jvm.Own
namespace Jvm.Own
open Jvm Jvm.ClassFile Sem Op Lib Jvm.Free Jvm.Stand Jvm.LawKit Jvm.RoadKit
/-! an array by what it holds at each place -/
def up {α : Type} (f : Nat → α) (i : Nat) (v : α) : Nat → α := fun k => if k = i then v else f k
theorem up_eq {α : Type} {f : Nat → α} {i k : Nat} {v : α} (q : k = i) : up f i v k = v := by simp [up, q]
theorem up_ne {α : Type} {f : Nat → α} {i k : Nat} {v : α} (q : k ≠ i) : up f i v k = f k := by simp [up, q]
def Fa (Z : State) (h : Heap) (a : Addr) (ty : FieldType) (n : Nat) (f : Nat → Value) : Prop :=
  ∃ c : Cell, Arr Z h a c ty ∧ c.slots.size = n ∧ n < 2 ^ 31 ∧ ∀ i, i < n → c.slots[i]? = some (f i)
/-- .. of objects of the class K -/
def FaO (Z : State) (h : Heap) (a : Addr) (K : String) (n : Nat) (f : Nat → Value) : Prop :=
  ∃ c : Cell, Arr Z h a c (.object K) ∧ Ovr Z c.cls K ∧ c.slots.size = n ∧ n < 2 ^ 31 ∧ ∀ i, i < n → c.slots[i]? = some (f i)
/-- .. of arrays, whose class is named K -/
def FaA (Z : State) (h : Heap) (a : Addr) (ty : FieldType) (K : String) (n : Nat) (f : Nat → Value) : Prop :=
  ∃ c : Cell, Arr Z h a c (.array ty) ∧ OvrA Z c.cls ty K ∧ c.slots.size = n ∧ n < 2 ^ 31 ∧ ∀ i, i < n → c.slots[i]? = some (f i)
section Facts
variable {Z : State} {h h' : Heap} {a b : Addr} {ty : FieldType} {K : String} {n : Nat} {f g : Nat → Value} {sl : Nat} {v : Value} {ws : List Addr}
theorem inb {c : Cell} {j : Int32} (S : c.slots.size = n) (h0 : ¬ j < 0) (hi : j.toNatClampNeg < n) : ¬ (j < 0 ∨ c.slots.size ≤ j.toNatClampNeg) := by
  rintro (q | q)
  · exact h0 q
  · omega
theorem set_at {c : Cell} (S : c.slots.size = n) (H : ∀ i, i < n → c.slots[i]? = some (f i)) (hs : sl < n) : ∀ i, i < n → (c.setSlot sl v).slots[i]? = some (up f sl v i) := fun i hi => by
  by_cases q : i = sl
  · subst q; rw [up_eq rfl]; simp [Cell.setSlot, S, hi]
  · rw [up_ne q, ← H i hi]; exact Array.getElem?_setIfInBounds_ne (Ne.symm q)
theorem new_at {cA : ClassId} {z : Int32} : ∀ i, i < z.toNatClampNeg → (newA cA ty z).slots[i]? = some (defaultValue ty) := fun i hi => by simp [newA, hi]
theorem clamp_lt (z : Int32) : z.toNatClampNeg < 2 ^ 31 := by
  have := Int32.toInt_lt z; simp only [Int32.toNatClampNeg]; omega
theorem Fa.lt (F : Fa Z h a ty n f) : a < h.size := by obtain ⟨c, A, -⟩ := F; exact A.lt
theorem Fa.ext (F : Fa Z h a ty n f) (E : Ext h h') : Fa Z h' a ty n f := by obtain ⟨c, A, r⟩ := F; exact ⟨c, A.ext E, r⟩
theorem Fa.other (F : Fa Z h b ty n f) (W : Wr h h' a sl v) (q : b ≠ a) : Fa Z h' b ty n f := by obtain ⟨c, A, r⟩ := F; exact ⟨c, A.other W q, r⟩
theorem Fa.keep (F : Fa Z h a ty n f) (K : Keep h h' ws) (q : a ∉ ws) : Fa Z h' a ty n f := by obtain ⟨c, A, r⟩ := F; exact ⟨c, ⟨K.2.1 a c A.1 q, A.2⟩, r⟩
theorem Fa.set (F : Fa Z h a ty n f) (W : Wr h h' a sl v) (hs : sl < n) : Fa Z h' a ty n (up f sl v) := by
  obtain ⟨c, A, S, N, H⟩ := F; exact ⟨_, A.same W, (sz_set _ _ _).trans S, N, set_at S H hs⟩
theorem Fa.new {cA : ClassId} {z : Int32} (A : Arr Z h a (newA cA ty z) ty) : Fa Z h a ty z.toNatClampNeg (fun _ => defaultValue ty) := ⟨_, A, sz_new _ _ _, clamp_lt z, new_at⟩
theorem Fa.congr (F : Fa Z h a ty n f) (q : ∀ i, i < n → f i = g i) : Fa Z h a ty n g := by obtain ⟨c, A, S, N, H⟩ := F; exact ⟨c, A, S, N, fun i hi => (H i hi).trans (congrArg some (q i hi))⟩
theorem FaO.lt (F : FaO Z h a K n f) : a < h.size := by obtain ⟨c, A, -⟩ := F; exact A.lt
theorem FaO.ext (F : FaO Z h a K n f) (E : Ext h h') : FaO Z h' a K n f := by obtain ⟨c, A, r⟩ := F; exact ⟨c, A.ext E, r⟩
theorem FaO.other (F : FaO Z h b K n f) (W : Wr h h' a sl v) (q : b ≠ a) : FaO Z h' b K n f := by obtain ⟨c, A, r⟩ := F; exact ⟨c, A.other W q, r⟩
theorem FaO.set (F : FaO Z h a K n f) (W : Wr h h' a sl v) (hs : sl < n) : FaO Z h' a K n (up f sl v) := by
  obtain ⟨c, A, O, S, N, H⟩ := F; exact ⟨_, A.same W, O, (sz_set _ _ _).trans S, N, set_at S H hs⟩
theorem FaO.new {cA : ClassId} {z : Int32} (A : Arr Z h a (newA cA (.object K) z) (.object K)) (O : Ovr Z cA K) : FaO Z h a K z.toNatClampNeg (fun _ => .null) := ⟨_, A, O, sz_new _ _ _, clamp_lt z, new_at⟩
theorem FaO.sto (F : FaO Z h a K n f) {y : Addr} (E : Exa Z h y K) : Sto Z h a (.ref y) := by obtain ⟨c, A, O, -⟩ := F; exact Sto.of A O (Ins.self E)
theorem FaA.lt (F : FaA Z h a ty K n f) : a < h.size := by obtain ⟨c, A, -⟩ := F; exact A.lt
theorem FaA.ext (F : FaA Z h a ty K n f) (E : Ext h h') : FaA Z h' a ty K n f := by obtain ⟨c, A, r⟩ := F; exact ⟨c, A.ext E, r⟩
theorem FaA.other (F : FaA Z h b ty K n f) (W : Wr h h' a sl v) (q : b ≠ a) : FaA Z h' b ty K n f := by obtain ⟨c, A, r⟩ := F; exact ⟨c, A.other W q, r⟩
theorem FaA.keep (F : FaA Z h a ty K n f) (Kp : Keep h h' ws) (q : a ∉ ws) : FaA Z h' a ty K n f := by obtain ⟨c, A, r⟩ := F; exact ⟨c, ⟨Kp.2.1 a c A.1 q, A.2⟩, r⟩
theorem FaA.set (F : FaA Z h a ty K n f) (W : Wr h h' a sl v) (hs : sl < n) : FaA Z h' a ty K n (up f sl v) := by
  obtain ⟨c, A, O, S, N, H⟩ := F; exact ⟨_, A.same W, O, (sz_set _ _ _).trans S, N, set_at S H hs⟩
theorem FaA.new {cA : ClassId} {z : Int32} (A : Arr Z h a (newA cA (.array ty) z) (.array ty)) (O : OvrA Z cA ty K) : FaA Z h a ty K z.toNatClampNeg (fun _ => .null) := ⟨_, A, O, sz_new _ _ _, clamp_lt z, new_at⟩
end Facts
section Rules
variable {W : Bool} {Z : State} {p : Program} {l : Launch} {e : Env} {R : Room} {s : State} {m : MethodId} {args : Array Value} {below : List Frame} {meth : Method} {c : Code} {y : MethodName} {bytes : ByteArray} {maxL : Nat} {ret : Option FieldType} {n0 : Nat} {Q : Option Value → Heap → Prop} {h : Heap} {k n : Nat} {a0 : Array Value}
variable {a : Addr} {ty : FieldType} {K : String} {N : Nat} {f : Nat → Value} {j : Int32} {v : Value} {pc : Nat} {Ls : Array Slot} {st : List Value}
theorem Wk.fLen (C : Cx Z p s m meth c y bytes maxL ret) (F : Fa Z h a ty N f) {z : Int32} (hz : N.toInt32 = z) (hd : decode bytes pc = .ok (.arraylength, 1))
    (H : Wk W p l e R s m args below meth c n0 Q h k n (mkF m (pc + 1) Ls (.int z :: st))) : Wk W p l e R s m args below meth c n0 Q h k n (mkF m pc Ls (.ref a :: st)) := by
  obtain ⟨cl, A, S, -⟩ := F; exact Wk.len C A hd (by rw [S, hz]; exact H)
theorem Wk.fLenA (C : Cx Z p s m meth c y bytes maxL ret) (F : FaA Z h a ty K N f) {z : Int32} (hz : N.toInt32 = z) (hd : decode bytes pc = .ok (.arraylength, 1))
    (H : Wk W p l e R s m args below meth c n0 Q h k n (mkF m (pc + 1) Ls (.int z :: st))) : Wk W p l e R s m args below meth c n0 Q h k n (mkF m pc Ls (.ref a :: st)) := by
  obtain ⟨cl, A, -, S, -⟩ := F; exact Wk.len C A hd (by rw [S, hz]; exact H)
theorem Wk.fLdI (C : Cx Z p s m meth c y bytes maxL ret) (F : Fa Z h a .int N f) {i : Nat} (hj : j.toNatClampNeg = i) (h0 : ¬ j < 0) (hi : i < N) (hv : f i = v) (hd : decode bytes pc = .ok (.iaload, 1))
    (H : Wk W p l e R s m args below meth c n0 Q h k n (mkF m (pc + 1) Ls (v :: st))) : Wk W p l e R s m args below meth c n0 Q h k n (mkF m pc Ls (.int j :: .ref a :: st)) := by
  subst hj
  obtain ⟨cl, A, S, -, Hs⟩ := F; exact Wk.ldI C A (inb S h0 hi) (hv ▸ Hs _ hi) hd H
theorem Wk.fLdJ (C : Cx Z p s m meth c y bytes maxL ret) (F : Fa Z h a .long N f) {i : Nat} (hj : j.toNatClampNeg = i) (h0 : ¬ j < 0) (hi : i < N) (hv : f i = v) (hd : decode bytes pc = .ok (.laload, 1))
    (H : Wk W p l e R s m args below meth c n0 Q h k n (mkF m (pc + 1) Ls (v :: st))) : Wk W p l e R s m args below meth c n0 Q h k n (mkF m pc Ls (.int j :: .ref a :: st)) := by
  subst hj
  obtain ⟨cl, A, S, -, Hs⟩ := F; exact Wk.ldJ C A (inb S h0 hi) (hv ▸ Hs _ hi) hd H
theorem Wk.fLdZ (C : Cx Z p s m meth c y bytes maxL ret) (F : Fa Z h a .boolean N f) {i : Nat} (hj : j.toNatClampNeg = i) (h0 : ¬ j < 0) (hi : i < N) (hv : f i = v) (hd : decode bytes pc = .ok (.baload, 1))
    (H : Wk W p l e R s m args below meth c n0 Q h k n (mkF m (pc + 1) Ls (v :: st))) : Wk W p l e R s m args below meth c n0 Q h k n (mkF m pc Ls (.int j :: .ref a :: st)) := by
  subst hj
  obtain ⟨cl, A, S, -, Hs⟩ := F; exact Wk.ldZ C A (inb S h0 hi) (hv ▸ Hs _ hi) hd H
theorem Wk.fLdC (C : Cx Z p s m meth c y bytes maxL ret) (F : Fa Z h a .char N f) {i : Nat} (hj : j.toNatClampNeg = i) (h0 : ¬ j < 0) (hi : i < N) (hv : f i = v) (hd : decode bytes pc = .ok (.caload, 1))
    (H : Wk W p l e R s m args below meth c n0 Q h k n (mkF m (pc + 1) Ls (v :: st))) : Wk W p l e R s m args below meth c n0 Q h k n (mkF m pc Ls (.int j :: .ref a :: st)) := by
  subst hj
  obtain ⟨cl, A, S, -, Hs⟩ := F; exact Wk.ldC C A (inb S h0 hi) (hv ▸ Hs _ hi) hd H
theorem Wk.fLdB (C : Cx Z p s m meth c y bytes maxL ret) (F : Fa Z h a .byte N f) {i : Nat} (hj : j.toNatClampNeg = i) (h0 : ¬ j < 0) (hi : i < N) (hv : f i = v) (hd : decode bytes pc = .ok (.baload, 1))
    (H : Wk W p l e R s m args below meth c n0 Q h k n (mkF m (pc + 1) Ls (v :: st))) : Wk W p l e R s m args below meth c n0 Q h k n (mkF m pc Ls (.int j :: .ref a :: st)) := by
  subst hj
  obtain ⟨cl, A, S, -, Hs⟩ := F; exact Wk.ldB C A (inb S h0 hi) (hv ▸ Hs _ hi) hd H
theorem Wk.fLdO (C : Cx Z p s m meth c y bytes maxL ret) (F : FaO Z h a K N f) {i : Nat} (hj : j.toNatClampNeg = i) (h0 : ¬ j < 0) (hi : i < N) (hv : f i = v) (hd : decode bytes pc = .ok (.aaload, 1))
    (H : Wk W p l e R s m args below meth c n0 Q h k n (mkF m (pc + 1) Ls (v :: st))) : Wk W p l e R s m args below meth c n0 Q h k n (mkF m pc Ls (.int j :: .ref a :: st)) := by
  subst hj
  obtain ⟨cl, A, -, S, -, Hs⟩ := F; exact Wk.ldR C A rfl (inb S h0 hi) (hv ▸ Hs _ hi) hd H
theorem Wk.fLdA (C : Cx Z p s m meth c y bytes maxL ret) (F : FaA Z h a ty K N f) {i : Nat} (hj : j.toNatClampNeg = i) (h0 : ¬ j < 0) (hi : i < N) (hv : f i = v) (hd : decode bytes pc = .ok (.aaload, 1))
    (H : Wk W p l e R s m args below meth c n0 Q h k n (mkF m (pc + 1) Ls (v :: st))) : Wk W p l e R s m args below meth c n0 Q h k n (mkF m pc Ls (.int j :: .ref a :: st)) := by
  subst hj
  obtain ⟨cl, A, -, S, -, Hs⟩ := F; exact Wk.ldR C A rfl (inb S h0 hi) (hv ▸ Hs _ hi) hd H
theorem Wk.fStI (C : Cx Z p s m meth c y bytes maxL ret) (F : Fa Z h a .int N f) {x : Int32} {i : Nat} (hj : j.toNatClampNeg = i) (h0 : ¬ j < 0) (hi : i < N) (ge : n0 ≤ a) (hd : decode bytes pc = .ok (.iastore, 1))
    (H : ∀ h', Wr h h' a i (.int x) → Fa Z h' a .int N (up f i (.int x)) → Wk W p l e R s m args below meth c n0 Q h' k n (mkF m (pc + 1) Ls st)) : Wk W p l e R s m args below meth c n0 Q h k n (mkF m pc Ls (.int x :: .int j :: .ref a :: st)) := by
  subst hj
  obtain ⟨cl, A, S, r⟩ := id F; exact Wk.stI C A (inb S h0 hi) ge hd fun h' Wh => H h' Wh (F.set Wh hi)
theorem Wk.fStJ (C : Cx Z p s m meth c y bytes maxL ret) (F : Fa Z h a .long N f) {x : Int64} {i : Nat} (hj : j.toNatClampNeg = i) (h0 : ¬ j < 0) (hi : i < N) (ge : n0 ≤ a) (hd : decode bytes pc = .ok (.lastore, 1))
    (H : ∀ h', Wr h h' a i (.long x) → Fa Z h' a .long N (up f i (.long x)) → Wk W p l e R s m args below meth c n0 Q h' k n (mkF m (pc + 1) Ls st)) : Wk W p l e R s m args below meth c n0 Q h k n (mkF m pc Ls (.long x :: .int j :: .ref a :: st)) := by
  subst hj
  obtain ⟨cl, A, S, r⟩ := id F; exact Wk.stJ C A (inb S h0 hi) ge hd fun h' Wh => H h' Wh (F.set Wh hi)
theorem Wk.fStZ (C : Cx Z p s m meth c y bytes maxL ret) (F : Fa Z h a .boolean N f) {x x' : Int32} (hx : nar .boolean x = x') {i : Nat} (hj : j.toNatClampNeg = i) (h0 : ¬ j < 0) (hi : i < N) (ge : n0 ≤ a) (hd : decode bytes pc = .ok (.bastore, 1))
    (H : ∀ h', Wr h h' a i (.int x') → Fa Z h' a .boolean N (up f i (.int x')) → Wk W p l e R s m args below meth c n0 Q h' k n (mkF m (pc + 1) Ls st)) : Wk W p l e R s m args below meth c n0 Q h k n (mkF m pc Ls (.int x :: .int j :: .ref a :: st)) := by
  subst hx
  subst hj
  obtain ⟨cl, A, S, r⟩ := id F; exact Wk.stZb C A (inb S h0 hi) ge hd fun h' Wh => H h' Wh (F.set Wh hi)
theorem Wk.fStB (C : Cx Z p s m meth c y bytes maxL ret) (F : Fa Z h a .byte N f) {x x' : Int32} (hx : nar .byte x = x') {i : Nat} (hj : j.toNatClampNeg = i) (h0 : ¬ j < 0) (hi : i < N) (ge : n0 ≤ a) (hd : decode bytes pc = .ok (.bastore, 1))
    (H : ∀ h', Wr h h' a i (.int x') → Fa Z h' a .byte N (up f i (.int x')) → Wk W p l e R s m args below meth c n0 Q h' k n (mkF m (pc + 1) Ls st)) : Wk W p l e R s m args below meth c n0 Q h k n (mkF m pc Ls (.int x :: .int j :: .ref a :: st)) := by
  subst hx
  subst hj
  obtain ⟨cl, A, S, r⟩ := id F; exact Wk.stB C A (inb S h0 hi) ge hd fun h' Wh => H h' Wh (F.set Wh hi)
theorem Wk.fStC (C : Cx Z p s m meth c y bytes maxL ret) (F : Fa Z h a .char N f) {x x' : Int32} (hx : nar .char x = x') {i : Nat} (hj : j.toNatClampNeg = i) (h0 : ¬ j < 0) (hi : i < N) (ge : n0 ≤ a) (hd : decode bytes pc = .ok (.castore, 1))
    (H : ∀ h', Wr h h' a i (.int x') → Fa Z h' a .char N (up f i (.int x')) → Wk W p l e R s m args below meth c n0 Q h' k n (mkF m (pc + 1) Ls st)) : Wk W p l e R s m args below meth c n0 Q h k n (mkF m pc Ls (.int x :: .int j :: .ref a :: st)) := by
  subst hx
  subst hj
  obtain ⟨cl, A, S, r⟩ := id F; exact Wk.stC C A (inb S h0 hi) ge hd fun h' Wh => H h' Wh (F.set Wh hi)
theorem Wk.fStO (C : Cx Z p s m meth c y bytes maxL ret) (F : FaO Z h a K N f) {i : Nat} (hj : j.toNatClampNeg = i) (h0 : ¬ j < 0) (hi : i < N) (So : Sto Z h a v) (ge : n0 ≤ a) (hd : decode bytes pc = .ok (.aastore, 1))
    (H : ∀ h', Wr h h' a i v → FaO Z h' a K N (up f i v) → Wk W p l e R s m args below meth c n0 Q h' k n (mkF m (pc + 1) Ls st)) : Wk W p l e R s m args below meth c n0 Q h k n (mkF m pc Ls (v :: .int j :: .ref a :: st)) := by
  subst hj
  obtain ⟨cl, A, O, S, r⟩ := id F; exact Wk.stR C A (inb S h0 hi) rfl So ge hd fun h' Wh => H h' Wh (F.set Wh hi)
theorem Wk.fStA (C : Cx Z p s m meth c y bytes maxL ret) (F : FaA Z h a ty K N f) {i : Nat} (hj : j.toNatClampNeg = i) (h0 : ¬ j < 0) (hi : i < N) (So : Sto Z h a v) (ge : n0 ≤ a) (hd : decode bytes pc = .ok (.aastore, 1))
    (H : ∀ h', Wr h h' a i v → FaA Z h' a ty K N (up f i v) → Wk W p l e R s m args below meth c n0 Q h' k n (mkF m (pc + 1) Ls st)) : Wk W p l e R s m args below meth c n0 Q h k n (mkF m pc Ls (v :: .int j :: .ref a :: st)) := by
  subst hj
  obtain ⟨cl, A, O, S, r⟩ := id F; exact Wk.stR C A (inb S h0 hi) rfl So ge hd fun h' Wh => H h' Wh (F.set Wh hi)
theorem Wk.fNewP (C : Cx Z p s m meth c y bytes maxL ret) {aty : ArrayType} (w : (Cond.arrayClass (newarray.typeOf aty)).before a0 Z = true) {z : Int32} {dv : Value} {ad : String} (hty : newarray.typeOf aty = ty) (hdv : defaultValue ty = dv) (hN : z.toNatClampNeg = N) (had : "[" ++ (newarray.typeOf aty).toString = ad) (hz : ¬ z < 0) {cap : Nat} (hcap : N ≤ cap) (hbig : cap * 8 ≤ 536870912) (hd : decode bytes pc = .ok (.newarray aty, 2)) (hc : k + 1 ≤ R.cells) (hl : n + cap ≤ R.slots)
    (H : ∀ h' a, a = h.size → Ext h h' → Exa Z h' a ad → Fa Z h' a ty N (fun _ => dv) → Wk W p l e R s m args below meth c n0 Q h' (k + 1) (n + cap) (mkF m (pc + 2) Ls (.ref a :: st))) :
    Wk W p l e R s m args below meth c n0 Q h k n (mkF m pc Ls (.int z :: st)) := by
  intro T L vm0 X B eT Nn
  subst hty hdv hN
  obtain ⟨T', h', cA, X', e', E, A, Ex, st⟩ := Jvm.RoadKit.newPE X C.hx (C.wZ B) w eT (g := mkF m pc Ls (.int z :: st)) rfl (hb C.hby hd) rfl hz hcap hbig hc hl had
  obtain ⟨s₂, o, h1, h2⟩ := H h' _ rfl E Ex (Fa.new A) T' L vm0 X' (B.mono E.1) e' Nn
  exact ⟨s₂, o, st _ h1, h2⟩
theorem Wk.fNewA (C : Cx Z p s m meth c y bytes maxL ret) {index : Nat} {z : Int32} {ad : String} (hK : (FieldType.array ty).toString = K) (w1 : (Cond.classLink y.cls index K).before a0 Z = true) (w2 : (Cond.arrayOver (.array ty)).before a0 Z = true) (hN : z.toNatClampNeg = N) (had : "[" ++ K = ad) (hz : ¬ z < 0) {cap : Nat} (hcap : N ≤ cap) (hbig : cap * 8 ≤ 536870912) (hd : decode bytes pc = .ok (.anewarray index, 3)) (hc : k + 1 ≤ R.cells) (hl : n + cap ≤ R.slots)
    (H : ∀ h' a, a = h.size → Ext h h' → Exa Z h' a ad → FaA Z h' a ty K N (fun _ => .null) → Wk W p l e R s m args below meth c n0 Q h' (k + 1) (n + cap) (mkF m (pc + 3) Ls (.ref a :: st))) :
    Wk W p l e R s m args below meth c n0 Q h k n (mkF m pc Ls (.int z :: st)) := by
  intro T L vm0 X B eT Nn
  subst hN
  obtain ⟨T', h', cA, X', e', E, A, Ex, O, st⟩ := Jvm.RoadKit.newRA X C.hx (C.wZ B) (C.wo B) hK w1 w2 eT (g := mkF m pc Ls (.int z :: st)) rfl (hb C.hby hd) rfl hz hcap hbig hc hl had
  obtain ⟨s₂, o, h1, h2⟩ := H h' _ rfl E Ex (FaA.new A O) T' L vm0 X' (B.mono E.1) e' Nn
  exact ⟨s₂, o, st _ h1, h2⟩
theorem Wk.fNewO (C : Cx Z p s m meth c y bytes maxL ret) {index : Nat} {z : Int32} (w1 : (Cond.classLink y.cls index K).before a0 Z = true) (w2 : (Cond.arrayOver (.object K)).before a0 Z = true) (hN : z.toNatClampNeg = N) (hz : ¬ z < 0) {cap : Nat} (hcap : N ≤ cap) (hbig : cap * 8 ≤ 536870912) (hd : decode bytes pc = .ok (.anewarray index, 3)) (hc : k + 1 ≤ R.cells) (hl : n + cap ≤ R.slots)
    (H : ∀ h' a, a = h.size → Ext h h' → FaO Z h' a K N (fun _ => .null) → Wk W p l e R s m args below meth c n0 Q h' (k + 1) (n + cap) (mkF m (pc + 3) Ls (.ref a :: st))) :
    Wk W p l e R s m args below meth c n0 Q h k n (mkF m pc Ls (.int z :: st)) := by
  subst hN
  exact Wk.newR C w1 w2 hz hcap hbig hd hc hl fun h' a cA g E A O => H h' a g E (FaO.new A O)
theorem FaA.sto {f : Nat → Value} (F : FaA Z h a ty K N f) {b : Addr} (E : Exa Z h b K) : Sto Z h a (.ref b) := by obtain ⟨c, A, O, -⟩ := F; exact Sto.ofVA A rfl O (Ins.self E)
end Rules
end Jvm.Own
namespace Jvm.Own
theorem nm0 {a : Nat} : a ∉ ([] : List Nat) := by simp
theorem nmS {a b : Nat} {ws : List Nat} (h : a ≠ b) (t : a ∉ ws) : a ∉ b :: ws := by simp [h, t]
theorem nv0 {P : Nat → Prop} : ∀ x ∈ ([] : List Nat), P x := fun _ q => nomatch q
theorem nvS {P : Nat → Prop} {b : Nat} {ws : List Nat} (h : P b) (t : ∀ x ∈ ws, P x) : ∀ x ∈ b :: ws, P x := fun x q => (List.mem_cons.mp q).elim (fun e => e ▸ h) (t x)
end Jvm.Own
namespace Jvm.Own
open Jvm Jvm.ClassFile Sem Op Lib Jvm.Free Jvm.Stand Jvm.LawKit Jvm.RoadKit
theorem dupX2 {tb : Tables} [Ours tb] {e : Env} {below : List Frame} {T target : State} {m : MethodId} {c : Code} {g : JFrame} (h : At T m c below) (hx : tb.exec = Jvm.exec) (hg : g.method = m) {x y z : Value} {rest : List Value} (hd : decode c.code g.pc = .ok (.dup_x2, 1)) (hs : g.stack = x :: y :: z :: rest) (hc : x.category = 1) (hc2 : y.category = 1) (hc3 : z.category = 1)
    (hr : Steps tb e below (T.setTop { g with pc := g.pc + 1, stack := x :: y :: z :: x :: rest }) target) : Steps tb e below (T.setTop g) target := by
  subst hg
  jvm_step h [h.top, hx, hd, hs, hc, hc2, hc3, dup_x2.wp_sem]
  exact hr
end Jvm.Own
namespace Jvm.Own
open Jvm Jvm.ClassFile Sem Op Lib Jvm.Free Jvm.Stand Jvm.LawKit Jvm.RoadKit
theorem fld_known {Z : State} {h : Heap} {a : Addr} {C n d : String} {v : Value} (F : Fld Z h a C n d v) : ∃ cell : Cell, h[a]? = some cell ∧ cell.vm ≠ .unknown := by
  obtain ⟨cell, _, _, _, _, h1, -, -, h4, -⟩ := F; exact ⟨cell, h1, h4⟩
end Jvm.Own
namespace Jvm.Own
open Jvm Jvm.ClassFile Sem Op Lib Jvm.Free Jvm.Stand Jvm.LawKit Jvm.RoadKit
/-! the same layer where one String constant's entry is followed: lt = some (class, entry, object) once it is loaded; a second load makes nothing -/
def Lx (Z : State) (lt : Option (String × Nat × Addr)) (s : State) : Prop := match lt with
  | none => True
  | some (o, i, a) => if o = "" then IB Z s.vm [] else Lit s o i a
theorem Lx.of_vm {Z : State} {lt : Option (String × Nat × Addr)} {s t : State} (h : Lx Z lt s) (e : t.vm = s.vm) : Lx Z lt t := by
  rcases lt with _ | ⟨o, i, a⟩
  · trivial
  · by_cases q : o = ""
    · simp only [Lx, q, if_true] at h ⊢; rw [e]; exact h
    · simp only [Lx, q, if_false] at h ⊢
      exact (show t.resolvedAt? o i = (s.setVm t.vm).resolvedAt? o i from rfl).trans (by rw [e]; exact h)
theorem Lx.staysH {Z : State} {lt : Option (String × Nat × Addr)} {s : State} {vm' : Vm} (h : Lx Z lt s) (hW : s.WarmedH vm') : Lx Z lt (s.setVm vm') := by
  rcases lt with _ | ⟨o, i, a⟩
  · trivial
  · by_cases q : o = ""
    · simp only [Lx, q, if_true] at h ⊢
      obtain ⟨more, e, hm⟩ := h
      exact ⟨more, (show vm'.interned = _ from hW.interned_eq.trans e), hm⟩
    · simp only [Lx, q, if_false] at h ⊢
      exact State.resolvedAt?_warmed39 hW.wide h
def Wl (Z : State) (p : Program) (l : Launch) (e : Env) (R : Room) (s : State) (m : MethodId) (args : Array Value) (below : List Frame) (meth : Method) (c : Code) (n0 : Nat) (Q : Option Value → Heap → Option (String × Nat × Addr) → Prop) (lt : Option (String × Nat × Addr)) (h : Heap) (k n : Nat) (g : JFrame) : Prop :=
  ∀ T L vm0, Stand p l e R (s.setVm vm0) m args below meth c T L k n → Bs true s vm0 h.size → T.heap = h → Fr n0 L → Lx Z lt (s.setVm vm0) →
    ∃ s₂ o, Steps p.tables e below (T.setTop g) s₂ ∧ s₂.status = .running ∧ Ended s₂ below o ∧ ∃ v L lt', o = .returned v ∧ (Q v s₂.heap lt' ∧ Fr n0 L) ∧ Lx Z lt' s₂ ∧ ReturnedEndW s o s₂ L R.cells R.slots
def MetL (l : Launch) (Z : State) (n0 : Nat) (y : MethodName) (bytes : ByteArray) (maxL : Nat) (ret : Option FieldType) (rm : Room) (as : Array Value) (lt : Option (String × Nat × Addr)) (h : Heap) (Q : Option Value → Heap → Option (String × Nat × Addr) → Prop) : Prop :=
  ∀ ws, MetFree l y (head1 (Cond.code y bytes maxL ret :: ws) rm) (fun a U => a = as ∧ Z.Warmed39 U.vm ∧ U.heap = h ∧ Lx Z lt U) (fun _ _ _ _ _ => True)
    (fun _ U o U' => ∃ v L lt', o = .returned v ∧ (Q v U'.heap lt' ∧ Fr n0 L) ∧ Lx Z lt' U' ∧ ReturnedEndW U o U' L rm.cells rm.slots)
theorem Met.toL {l : Launch} {Z : State} {n0 : Nat} {y : MethodName} {bytes : ByteArray} {maxL : Nat} {ret : Option FieldType} {rm : Room} {as : Array Value} {h : Heap} {Q : Option Value → Heap → Prop} (M : Met true l Z n0 y bytes maxL ret rm as h Q) (lt : Option (String × Nat × Addr)) : MetL l Z n0 y bytes maxL ret rm as lt h (fun v h' lt' => Q v h' ∧ lt' = none) := by
  intro ws p e ha hc hk s m args below hf happ hP hK
  obtain ⟨q1, q2, q3, q4⟩ := hP
  obtain ⟨n, o, h1, h2, h3, v, L, h4, ⟨h5, h6⟩, h7⟩ := M ws p e ha hc hk s m args below hf happ ⟨q1, q2, q3⟩ hK
  exact ⟨n, o, h1, h2, h3, v, L, none, h4, ⟨⟨h5, rfl⟩, h6⟩, trivial, h7⟩
theorem MetL.of {l : Launch} {Z : State} {n0 : Nat} {y : MethodName} {bytes : ByteArray} {maxL : Nat} {ret : Option FieldType} {rm : Room} {as : Array Value} {lt : Option (String × Nat × Addr)} {h : Heap} {Q : Option Value → Heap → Option (String × Nat × Addr) → Prop}
    (hpn : plainFor y = true) (Ls : Array Slot) (hef : ∀ m, entryFrame m as maxL = mkF m 0 Ls [])
    (H : ∀ p e s m below meth c, Cx Z p s m meth c y bytes maxL ret → Wl Z p l e rm s m as below meth c n0 Q lt h 0 0 (mkF m 0 Ls [])) : MetL l Z n0 y bytes maxL ret rm as lt h Q := by
  intro ws
  refine MetFree.of_bodySF hpn hisR ?_
  intro p e s m args below meth c s₁ Bd hml0 hP hK
  obtain ⟨ha, hZ, hh, hl⟩ := hP
  have hown := findClass_of_methodNamed Bd.named
  have hnm := (name_of_methodNamed Bd.named Bd.method).1
  have e0 : s₁.heap = h := by rw [← hh, Bd.state]; rfl
  have X0 : Stand p l e rm s m args below meth c s₁ [] 0 0 := Stand.of_body Bd
  rw [ha] at X0 ⊢
  obtain ⟨s₂, o, h1, h2⟩ := H p e s m below meth c ⟨Bd.exec, Bd.bytes, hml0, hZ, hown, hnm, Bd.returns, Bd.notSynchronized⟩ s₁ [] s.vm X0 (Bs.start true s _) e0 (Fr.nil n0) (hl.of_vm rfl)
  exact ⟨s₂, o, castTop (hef m) h1, h2⟩
section Rules
variable {Z : State} {p : Program} {l : Launch} {e : Env} {R : Room} {s : State} {m : MethodId} {args : Array Value} {below : List Frame} {meth : Method} {c : Code} {y : MethodName} {bytes : ByteArray} {maxL : Nat} {ret : Option FieldType} {n0 : Nat} {Q : Option Value → Heap → Option (String × Nat × Addr) → Prop} {lt : Option (String × Nat × Addr)} {h : Heap} {k n : Nat} {g g' : JFrame} {a0 : Array Value}
theorem Wl.st (f : ∀ {T : State} {L : List Loc} {vm0 : Vm}, Stand p l e R (s.setVm vm0) m args below meth c T L k n → ∀ t, Steps p.tables e below (T.setTop g') t → Steps p.tables e below (T.setTop g) t)
    (H : Wl Z p l e R s m args below meth c n0 Q lt h k n g') : Wl Z p l e R s m args below meth c n0 Q lt h k n g := by
  intro T L vm0 X B eT N Lz
  obtain ⟨s₂, o, h1, h2⟩ := H T L vm0 X B eT N Lz
  exact ⟨s₂, o, f X _ h1, h2⟩
theorem Wl.stZ (C : Cx Z p s m meth c y bytes maxL ret) (f : ∀ {T : State} {L : List Loc} {vm0 : Vm}, Stand p l e R (s.setVm vm0) m args below meth c T L k n → Z.Warmed39 (s.setVm vm0).vm → (s.setVm vm0).vm.findClass y.cls = some m.cls → T.heap = h → ∃ T', Stand p l e R (s.setVm vm0) m args below meth c T' L k n ∧ T'.heap = h ∧ ∀ t, Steps p.tables e below (T'.setTop g') t → Steps p.tables e below (T.setTop g) t)
    (H : Wl Z p l e R s m args below meth c n0 Q lt h k n g') : Wl Z p l e R s m args below meth c n0 Q lt h k n g := by
  intro T L vm0 X B eT N Lz
  obtain ⟨T', X', e', st⟩ := f X (C.wZ B) (C.wo B) eT
  obtain ⟨s₂, o, h1, h2⟩ := H T' L vm0 X' B e' N Lz
  exact ⟨s₂, o, st _ h1, h2⟩
theorem Wl.ldcI (C : Cx Z p s m meth c y bytes maxL ret) {index : Nat} {v : Int32} (w : (Cond.constant y.cls index v).before a0 Z = true) {pc : Nat} {Ls : Array Slot} {st : List Value} (hd : decode bytes pc = .ok (.ldc index, 2))
    (H : Wl Z p l e R s m args below meth c n0 Q lt h k n (mkF m (pc + 2) Ls (.int v :: st))) : Wl Z p l e R s m args below meth c n0 Q lt h k n (mkF m pc Ls st) :=
  Wl.stZ C (fun X hZ ho eT => ⟨_, X, eT, fun t q => X.ldcI C.hx ho (mvT hZ w) rfl (hb C.hby hd) q⟩) H
theorem Wl.getS (C : Cx Z p s m meth c y bytes maxL ret) {O nm d : String} {index : Nat} (w : (Cond.fieldLink y.cls index O nm d).before a0 Z = true) {v : Value} (F : Sta Z h O nm d v) {pc : Nat} {Ls : Array Slot} {st : List Value} (hd : decode bytes pc = .ok (.getstatic index, 3))
    (H : Wl Z p l e R s m args below meth c n0 Q lt h k n (mkF m (pc + 3) Ls (v :: st))) : Wl Z p l e R s m args below meth c n0 Q lt h k n (mkF m pc Ls st) :=
  Wl.stZ C (fun X hZ ho eT => Jvm.RoadKit.getS (host := "") X C.hx hZ ho w Via.refl eT F (g := mkF m pc Ls st) rfl (hb C.hby hd)) H
theorem Wl.retV (C : Cx Z p s m meth c y bytes maxL ret) {pc : Nat} {Ls : Array Slot} {w : Value} {t : FieldType} {i : Instr} {rest : List Value} (ht : ret = some t) (hn : narrow t w = w)
    (hi : (i = .ireturn ∧ (t = .int ∨ t = .boolean ∨ t = .byte ∨ t = .char ∨ t = .short) ∧ ∃ z, w = .int z) ∨ (i = .lreturn ∧ t = .long ∧ ∃ z, w = .long z) ∨ (i = .dreturn ∧ t = .double ∧ ∃ z, w = .double z) ∨ (i = .freturn ∧ t = .float ∧ ∃ z, w = .float z) ∨ (i = .areturn ∧ t.isReference = true ∧ w.isRef = true))
    (hd : decode bytes pc = .ok (i, 1)) (hk : k ≤ R.cells) (hs : n ≤ R.slots) (hq : Q (some w) h lt) : Wl Z p l e R s m args below meth c n0 Q lt h k n (mkF m pc Ls (w :: rest)) := by
  intro T L vm0 X B eT N Lz
  have hlk := C.hlk
  have hv : meth.sig.returnType = none → (some w : Option Value) = none := fun h => by rw [C.hret, ht] at h; cases h
  obtain ⟨k0, hS, hk0⟩ := (B : ∃ k0, s.Since vm0 k0 ∧ k0 ≤ h.size)
  obtain ⟨fs, hr, hrun, hended, hE⟩ := X.leaveW hS (by rw [eT]; exact hk0) (v := some w) hv hlk
  refine ⟨_, _, retOut X C.hx (C.hret.trans ht) hn hi (hb C.hby hd) hr, hrun, hended, _, L, lt, rfl, ⟨?_, N⟩, (Lz.staysH X.warmed).of_vm rfl, hE.1, hE.2.1, hE.2.2.1, hE.2.2.2.mono hk hs⟩
  show Q (some w) T.heap lt
  rw [eT]; exact hq
theorem backL {y : MethodName} {bytes : ByteArray} {maxL : Nat} {ret : Option FieldType} {rm : Room} {len W : Nat} {as' : Array Value} {Q : Option Value → Heap → Option (String × Nat × Addr) → Prop}
    (hM : MetL l Z n0 y bytes maxL ret rm as' lt h Q) {vm0 : Vm} (hZ : Z.Warmed39 (s.setVm vm0).vm) (hl0 : Lx Z lt (s.setVm vm0)) (wc : (Cond.code y bytes maxL ret).before a0 Z = true) (wz : (Cond.initialized y.cls).before a0 Z = true) (hf : rm.frames + 1 ≤ R.frames) (hl : W + (maxL + 11) + rm.locals ≤ R.locals) :
    BackS l R p e below (s.setVm vm0) args y len W (fun A a => a = as' ∧ A.U.heap = h ∧ A.cells + rm.cells ≤ R.cells ∧ A.slots + rm.slots ≤ R.slots)
      (fun A _ v B => ∃ L lt', (Q v B.U.heap lt' ∧ Fr n0 L) ∧ Lx Z lt' B.U ∧ B.locs = A.locs ++ L ∧ B.cells = A.cells + rm.cells ∧ B.slots = A.slots + rm.slots) :=
  BackS.of_freeW (bytes := bytes) (maxL := maxL) (ret := ret) (E := fun _ _ o t L k n => k = rm.cells ∧ n = rm.slots ∧ ∃ v lt', o = .returned v ∧ (Q v t.heap lt' ∧ Fr n0 L) ∧ Lx Z lt' t) (hM []) hf hl
    (fun m meth c A a Y hp => have hU : Z.Warmed39 A.U.vm := wtrans hZ Y.warmed
      ⟨by show (Cond.and _ .tt).before a A.U = true; rw [Cond.before_and, mv hU wc]; rfl, mv hU wc, mv hU wz, hp.2.2.1, hp.2.2.2⟩)
    (fun m meth c A a g mk Y hp => ⟨hp.1, wtrans hZ Y.warmed, hp.2.1, (hl0.staysH Y.warmed).of_vm rfl⟩) (fun _ _ _ _ _ _ _ _ _ => trivial)
    (fun _ _ _ _ ⟨v, L, lt', h1, h2, h3, h4⟩ => ⟨L, _, _, h4, rfl, rfl, v, lt', h1, h2, h3⟩)
    (fun m meth c A a g mk v t L k n Y hp _ _ ⟨e1, e2, v', lt', e3, e4, e5⟩ => by cases e3; subst e1 e2; exact ⟨L, lt', e4, e5.of_vm rfl, rfl, rfl, rfl⟩)
theorem Wl.callS (C : Cx Z p s m meth c y bytes maxL ret) {z : MethodName} {index : Nat} {bz : ByteArray} {mz : Nat} {rz : Option FieldType} {rm : Room} {asL : List Value} {Qz : Option Value → Heap → Option (String × Nat × Addr) → Prop}
    (w1 : (Cond.methodLink y.cls index z).before a0 Z = true) (w2 : (Cond.static z).before a0 Z = true) (w3 : (Cond.initialized z.cls).before a0 Z = true) (w4 : (Cond.code z bz mz rz).before a0 Z = true)
    (hz : z.cls ≠ "java/lang/invoke/MethodHandle" ∧ z.cls ≠ "java/lang/invoke/VarHandle") (M : MetL l Z n0 z bz mz rz rm asL.toArray lt h Qz) {w : Nat} (hf : rm.frames + 1 ≤ R.frames) (hl : w + (mz + 11) + rm.locals ≤ R.locals)
    {ps : List FieldType} {r : Option FieldType} (hlen : parseMethodDescriptor z.desc = some ⟨ps, r⟩) (hps : asL.length = ps.length) {pc : Nat} {Ls : Array Slot} {st rest : List Value} (hls : Ls.size = maxL) (hst : st = asL.reverse ++ rest) (hw : (rest.map fun v => v.category).sum ≤ w)
    (hc : k + rm.cells ≤ R.cells) (hs : n + rm.slots ≤ R.slots) (hd : decode bytes pc = .ok (.invokestatic index, 3))
    (H : ∀ v h' lt', Qz v h' lt' → Wl Z p l e R s m args below meth c n0 Q lt' h' (k + rm.cells) (n + rm.slots) (mkF m (pc + 3) Ls (v.toList ++ rest))) : Wl Z p l e R s m args below meth c n0 Q lt h k n (mkF m pc Ls st) := by
  intro T L vm0 X B eT N Lz
  subst hst
  have hZ := C.wZ B
  have ho := C.wo B
  have hw' : 2 * (mkF m pc Ls (asL.reverse ++ rest)).monitorRoom + (rest.map fun v => v.category).sum ≤ w := by show 2 * 0 + _ ≤ _; omega
  obtain ⟨v, vm₁, ⟨T', L', k', n'⟩, -, X', hS', hgr, ⟨Lc, lt', hQ, hL, l1, y1, z1⟩, st⟩ := callSS X C.hx ho (mvT hZ w1) (mvT hZ w2) (mvT hZ w3) (mvT hZ w4) hz (backL (W := w) M hZ Lz w4 w3 hf hl) (g := mkF m pc Ls (asL.reverse ++ rest)) rfl (hls.trans C.hml.symm) (argsL := asL) (rest := rest) (lenOf hlen hps) rfl hw' (hb C.hby hd) (fun _ _ => ⟨rfl, eT, hc, hs⟩)
  dsimp only [Pt.U, Pt.locs, Pt.cells, Pt.slots] at X' hS' hgr l1 y1 z1 st hQ hL
  subst l1 y1 z1
  obtain ⟨k0, hS, hk0⟩ := (B : ∃ k0, s.Since vm0 k0 ∧ k0 ≤ h.size)
  obtain ⟨s₂, o, h1, h2⟩ := H v T'.heap lt' hQ.1 T' _ T'.vm X' ⟨_, foldS hS (by rw [eT]; exact hk0) hS' hgr, Nat.le_refl _⟩ rfl (N.app hQ.2) (hL.of_vm rfl)
  exact ⟨s₂, o, st.trans h1, h2⟩
theorem Wl.callV (C : Cx Z p s m meth c y bytes maxL ret) {x z : MethodName} {K : String} {index : Nat} {bz : ByteArray} {mz : Nat} {rz : Option FieldType} {rm : Room} {a : Addr} {asL : List Value} {Qz : Option Value → Heap → Option (String × Nat × Addr) → Prop}
    (w1 : (Cond.methodLink y.cls index x).before a0 Z = true) (w2 : (Cond.declares x).before a0 Z = true) (w5 : (Cond.selects K x z).before a0 Z = true) (w6 : (Cond.instanceMethod z).before a0 Z = true) (w3 : (Cond.initialized z.cls).before a0 Z = true) (w4 : (Cond.code z bz mz rz).before a0 Z = true)
    (hz : x.cls ≠ "java/lang/invoke/MethodHandle" ∧ x.cls ≠ "java/lang/invoke/VarHandle") (hnf : ∀ s' : State, Z.Warmed39 s'.vm → NotFace s' x) (E : Exa Z h a K) (M : MetL l Z n0 z bz mz rz rm (.ref a :: asL).toArray lt h Qz) {w : Nat} (hf : rm.frames + 1 ≤ R.frames) (hl : w + (mz + 11) + rm.locals ≤ R.locals)
    {ps : List FieldType} {r : Option FieldType} (hlen : parseMethodDescriptor x.desc = some ⟨ps, r⟩) (hps : asL.length = ps.length) {pc : Nat} {Ls : Array Slot} {st rest : List Value} (hls : Ls.size = maxL) (hst : st = asL.reverse ++ .ref a :: rest) (hw : (rest.map fun v => v.category).sum ≤ w)
    (hc : k + rm.cells ≤ R.cells) (hs : n + rm.slots ≤ R.slots) (hd : decode bytes pc = .ok (.invokevirtual index, 3))
    (H : ∀ v h' lt', Qz v h' lt' → Wl Z p l e R s m args below meth c n0 Q lt' h' (k + rm.cells) (n + rm.slots) (mkF m (pc + 3) Ls (v.toList ++ rest))) : Wl Z p l e R s m args below meth c n0 Q lt h k n (mkF m pc Ls st) := by
  intro T L vm0 X B eT N Lz
  subst hst
  have hZ := C.wZ B
  have ho := C.wo B
  have hw' : 2 * (mkF m pc Ls (asL.reverse ++ .ref a :: rest)).monitorRoom + (rest.map fun v => v.category).sum ≤ w := by show 2 * 0 + _ ≤ _; omega
  obtain ⟨cq, kq, qa, qb, qc⟩ := isOf hZ eT E
  obtain ⟨v, vm₁, ⟨T', L', k', n'⟩, -, X', hS', hgr, ⟨Lc, lt', hQ, hL, l1, y1, z1⟩, st⟩ := X.virtualBackS C.hx (y := x) (z := z) ho (mvT hZ w1) (mvT hZ w2) (hnf _ hZ) (mvT hZ w5) (mvT hZ w6) hz (backL (W := w) M hZ Lz w4 w3 hf hl) qa qc (g := mkF m pc Ls (asL.reverse ++ .ref a :: rest)) rfl (hls.trans C.hml.symm) (Steps.refl _) (argsL := asL) (rest := rest) (lenOf hlen hps) rfl hw' (hb C.hby hd) (fun _ _ => ⟨rfl, eT, hc, hs⟩)
  dsimp only [Pt.U, Pt.locs, Pt.cells, Pt.slots] at X' hS' hgr l1 y1 z1 st hQ hL
  subst l1 y1 z1
  obtain ⟨k0, hS, hk0⟩ := (B : ∃ k0, s.Since vm0 k0 ∧ k0 ≤ h.size)
  obtain ⟨s₂, o, h1, h2⟩ := H v T'.heap lt' hQ.1 T' _ T'.vm X' ⟨_, foldS hS (by rw [eT]; exact hk0) hS' hgr, Nat.le_refl _⟩ rfl (N.app hQ.2) (hL.of_vm rfl)
  exact ⟨s₂, o, st.trans h1, h2⟩
theorem Wl.callU (C : Cx Z p s m meth c y bytes maxL ret) {x z : MethodName} {K owner : String} {index : Nat} {bz : ByteArray} {mz : Nat} {rz : Option FieldType} {rm : Room} {a : Addr} {asL : List Value} {Qz : Option Value → Heap → Option (String × Nat × Addr) → Prop}
    (w1 : (Cond.methodLink y.cls index x).before a0 Z = true) (w7 : (Cond.sameMethod x.cls owner x.name x.desc).before a0 Z = true) (w2 : (Cond.declares ⟨owner, x.name, x.desc⟩).before a0 Z = true) (w5 : (Cond.selects K x z).before a0 Z = true) (w6 : (Cond.instanceMethod z).before a0 Z = true) (w3 : (Cond.initialized z.cls).before a0 Z = true) (w4 : (Cond.code z bz mz rz).before a0 Z = true)
    (hz : owner ≠ "java/lang/invoke/MethodHandle" ∧ owner ≠ "java/lang/invoke/VarHandle") (E : Exa Z h a K) (M : MetL l Z n0 z bz mz rz rm (.ref a :: asL).toArray lt h Qz) {w : Nat} (hf : rm.frames + 1 ≤ R.frames) (hl : w + (mz + 11) + rm.locals ≤ R.locals)
    {ps : List FieldType} {r : Option FieldType} (hlen : parseMethodDescriptor x.desc = some ⟨ps, r⟩) (hps : asL.length = ps.length) {pc : Nat} {Ls : Array Slot} {st rest : List Value} (hls : Ls.size = maxL) (hst : st = asL.reverse ++ .ref a :: rest) (hw : (rest.map fun v => v.category).sum ≤ w)
    (hc : k + rm.cells ≤ R.cells) (hs : n + rm.slots ≤ R.slots) (hd : decode bytes pc = .ok (.invokevirtual index, 3))
    (H : ∀ v h' lt', Qz v h' lt' → Wl Z p l e R s m args below meth c n0 Q lt' h' (k + rm.cells) (n + rm.slots) (mkF m (pc + 3) Ls (v.toList ++ rest))) : Wl Z p l e R s m args below meth c n0 Q lt h k n (mkF m pc Ls st) := by
  intro T L vm0 X B eT N Lz
  subst hst
  have hZ := C.wZ B
  have ho := C.wo B
  have hw' : 2 * (mkF m pc Ls (asL.reverse ++ .ref a :: rest)).monitorRoom + (rest.map fun v => v.category).sum ≤ w := by show 2 * 0 + _ ≤ _; omega
  obtain ⟨cq, kq, qa, qb, qc⟩ := isOf hZ eT E
  obtain ⟨v, vm₁, ⟨T', L', k', n'⟩, -, X', hS', hgr, ⟨Lc, lt', hQ, hL, l1, y1, z1⟩, st⟩ := X.virtualBackUpS C.hx (x := x) (y := z) ho (mvT hZ w1) (mvT hZ w7) (mvT hZ w2) hz (mvT hZ w5) (mvT hZ w6) (backL (W := w) M hZ Lz w4 w3 hf hl) qa qc (g := mkF m pc Ls (asL.reverse ++ .ref a :: rest)) rfl (hls.trans C.hml.symm) (Steps.refl _) (argsL := asL) (rest := rest) (lenOf hlen hps) rfl hw' (hb C.hby hd) (fun _ _ => ⟨rfl, eT, hc, hs⟩)
  dsimp only [Pt.U, Pt.locs, Pt.cells, Pt.slots] at X' hS' hgr l1 y1 z1 st hQ hL
  subst l1 y1 z1
  obtain ⟨k0, hS, hk0⟩ := (B : ∃ k0, s.Since vm0 k0 ∧ k0 ≤ h.size)
  obtain ⟨s₂, o, h1, h2⟩ := H v T'.heap lt' hQ.1 T' _ T'.vm X' ⟨_, foldS hS (by rw [eT]; exact hk0) hS' hgr, Nat.le_refl _⟩ rfl (N.app hQ.2) (hL.of_vm rfl)
  exact ⟨s₂, o, st.trans h1, h2⟩
theorem Wl.ofWk {Q1 : Option Value → Heap → Prop} (H : Wk true p l e R s m args below meth c n0 Q1 h k n g) : Wl Z p l e R s m args below meth c n0 (fun v h' _ => Q1 v h') lt h k n g := by
  intro T L vm0 X B eT N Lz
  obtain ⟨s₂, o, h1, h2, h3, v, L', h4, ⟨h5, h6⟩, h7⟩ := H T L vm0 X B eT N
  exact ⟨s₂, o, h1, h2, h3, v, L', none, h4, ⟨h5, h6⟩, trivial, h7⟩
theorem Wl.newO (C : Cx Z p s m meth c y bytes maxL ret) {K : String} {index sz : Nat} (w : (Cond.classLink y.cls index K).before a0 Z = true) (wi : (Cond.instantiable K sz).before a0 Z = true) (wz : (Cond.initialized K).before a0 Z = true) {pc : Nat} {Ls : Array Slot} {st : List Value} (hd : decode bytes pc = .ok (.new index, 3)) (hc : k + 1 ≤ R.cells) (hl : n + sz ≤ R.slots)
    (H : ∀ h' a, a = h.size → Ext h h' → Exa Z h' a K → (∀ {O nm d : String} {ty : FieldType}, Laid Z a0 K O nm d → parseFieldDescriptor d = some ty → Fld Z h' a O nm d (defaultValue ty)) → Wl Z p l e R s m args below meth c n0 Q lt h' (k + 1) (n + sz) (mkF m (pc + 3) Ls (.ref a :: st))) :
    Wl Z p l e R s m args below meth c n0 Q lt h k n (mkF m pc Ls st) := by
  intro T L vm0 X B eT N Lz
  obtain ⟨T', h', X', e', E, A, D, -, st⟩ := Jvm.RoadKit.newO X C.hx (C.wZ B) (C.wo B) w wi wz eT (g := mkF m pc Ls st) rfl (hb C.hby hd) hc hl
  obtain ⟨s₂, o, h1, h2⟩ := H h' _ rfl E A D T' L vm0 X' (B.mono E.1) e' N Lz
  exact ⟨s₂, o, st _ h1, h2⟩
theorem Wl.fNewP (C : Cx Z p s m meth c y bytes maxL ret) {aty : ArrayType} {ty : FieldType} {N : Nat} (w : (Cond.arrayClass (newarray.typeOf aty)).before a0 Z = true) {z : Int32} {dv : Value} {ad : String} (hty : newarray.typeOf aty = ty) (hdv : defaultValue ty = dv) (hN : z.toNatClampNeg = N) (had : "[" ++ (newarray.typeOf aty).toString = ad) (hz : ¬ z < 0) {cap : Nat} (hcap : N ≤ cap) (hbig : cap * 8 ≤ 536870912) {pc : Nat} {Ls : Array Slot} {st : List Value} (hd : decode bytes pc = .ok (.newarray aty, 2)) (hc : k + 1 ≤ R.cells) (hl : n + cap ≤ R.slots)
    (H : ∀ h' a, a = h.size → Ext h h' → Exa Z h' a ad → Fa Z h' a ty N (fun _ => dv) → Wl Z p l e R s m args below meth c n0 Q lt h' (k + 1) (n + cap) (mkF m (pc + 2) Ls (.ref a :: st))) :
    Wl Z p l e R s m args below meth c n0 Q lt h k n (mkF m pc Ls (.int z :: st)) := by
  intro T L vm0 X B eT Nn Lz
  subst hty hdv hN
  obtain ⟨T', h', cA, X', e', E, A, Ex, st⟩ := Jvm.RoadKit.newPE X C.hx (C.wZ B) w eT (g := mkF m pc Ls (.int z :: st)) rfl (hb C.hby hd) rfl hz hcap hbig hc hl had
  obtain ⟨s₂, o, h1, h2⟩ := H h' _ rfl E Ex (Fa.new A) T' L vm0 X' (B.mono E.1) e' Nn Lz
  exact ⟨s₂, o, st _ h1, h2⟩
theorem Wl.fLen (C : Cx Z p s m meth c y bytes maxL ret) {a : Addr} {ty : FieldType} {N : Nat} {f : Nat → Value} (F : Fa Z h a ty N f) {z : Int32} (hz : N.toInt32 = z) {pc : Nat} {Ls : Array Slot} {st : List Value} (hd : decode bytes pc = .ok (.arraylength, 1))
    (H : Wl Z p l e R s m args below meth c n0 Q lt h k n (mkF m (pc + 1) Ls (.int z :: st))) : Wl Z p l e R s m args below meth c n0 Q lt h k n (mkF m pc Ls (.ref a :: st)) := by
  obtain ⟨cl, A, S, -⟩ := F
  exact Wl.stZ C (fun X hZ ho eT => ⟨_, X, eT, by rw [← hz, ← S]; exact X.arraylength C.hx (by rw [eT]; exact A.1) (State.isArrayOf_alike hZ.alike A.2.1) (g := mkF m pc Ls (.ref a :: st)) rfl rfl (hb C.hby hd)⟩) H
theorem Wl.retN0 (C : Cx Z p s m meth c y bytes maxL ret) {pc : Nat} {Ls : Array Slot} (ht : ret = none) (hd : decode bytes pc = .ok (.return_, 1)) (hk : k ≤ R.cells) (hs : n ≤ R.slots) (hq : Q none h lt) : Wl Z p l e R s m args below meth c n0 Q lt h k n (mkF m pc Ls []) := by
  intro T L vm0 X B eT N Lz
  have hlk := C.hlk
  have hv : meth.sig.returnType = none → (none : Option Value) = none := fun _ => rfl
  obtain ⟨k0, hS, hk0⟩ := (B : ∃ k0, s.Since vm0 k0 ∧ k0 ≤ h.size)
  obtain ⟨fs, hr, hrun, hended, hE⟩ := X.leaveW hS (by rw [eT]; exact hk0) (v := none) hv hlk
  refine ⟨_, _, X.returnOut C.hx (C.hret.trans ht) (hb C.hby hd) hr, hrun, hended, _, L, lt, rfl, ⟨?_, N⟩, (Lz.staysH X.warmed).of_vm rfl, hE.1, hE.2.1, hE.2.2.1, hE.2.2.2.mono hk hs⟩
  show Q none T.heap lt
  rw [eT]; exact hq
theorem Wl.callI (C : Cx Z p s m meth c y bytes maxL ret) {z : MethodName} {index : Nat} {bz : ByteArray} {mz : Nat} {rm : Room} {a : Addr} {asL : List Value} {Qz : Option Value → Heap → Option (String × Nat × Addr) → Prop} (hz1 : z.name = "<init>")
    (w1 : (Cond.methodLink y.cls index z).before a0 Z = true) (w2 : (Cond.instanceMethod z).before a0 Z = true) (w3 : (Cond.initialized z.cls).before a0 Z = true) (w4 : (Cond.code z bz mz none).before a0 Z = true)
    (hz : z.cls ≠ "java/lang/invoke/MethodHandle" ∧ z.cls ≠ "java/lang/invoke/VarHandle") (M : MetL l Z n0 z bz mz none rm (.ref a :: asL).toArray lt h Qz) {w : Nat} (hf : rm.frames + 1 ≤ R.frames) (hl : w + (mz + 11) + rm.locals ≤ R.locals)
    {ps : List FieldType} {r : Option FieldType} (hlen : parseMethodDescriptor z.desc = some ⟨ps, r⟩) (hps : asL.length = ps.length) {pc : Nat} {Ls : Array Slot} {st rest : List Value} (hls : Ls.size = maxL) (hst : st = asL.reverse ++ .ref a :: rest) (hw : (rest.map fun v => v.category).sum ≤ w)
    (hc : k + rm.cells ≤ R.cells) (hs : n + rm.slots ≤ R.slots) (hd : decode bytes pc = .ok (.invokespecial index, 3))
    (H : ∀ v h' lt', Qz v h' lt' → Wl Z p l e R s m args below meth c n0 Q lt' h' (k + rm.cells) (n + rm.slots) (mkF m (pc + 3) Ls (v.toList ++ rest))) : Wl Z p l e R s m args below meth c n0 Q lt h k n (mkF m pc Ls st) := by
  intro T L vm0 X B eT N Lz
  subst hst
  have hZ := C.wZ B
  have ho := C.wo B
  have hw' : 2 * (mkF m pc Ls (asL.reverse ++ .ref a :: rest)).monitorRoom + (rest.map fun v => v.category).sum ≤ w := by show 2 * 0 + _ ≤ _; omega
  obtain ⟨v, vm₁, ⟨T', L', k', n'⟩, -, X', hS', hgr, ⟨Lc, lt', hQ, hL, l1, y1, z1⟩, st⟩ := X.specialBackS C.hx hz1 ho (mvT hZ w1) (mvT hZ w2) (mvT hZ w4) hz (backL (W := w) M hZ Lz w4 w3 hf hl) (g := mkF m pc Ls (asL.reverse ++ .ref a :: rest)) rfl (hls.trans C.hml.symm) (Steps.refl _) (a := a) (argsL := asL) (rest := rest) (lenOf hlen hps) rfl hw' (hb C.hby hd) (fun _ _ => ⟨rfl, eT, hc, hs⟩)
  dsimp only [Pt.U, Pt.locs, Pt.cells, Pt.slots] at X' hS' hgr l1 y1 z1 st hQ hL
  subst l1 y1 z1
  obtain ⟨k0, hS, hk0⟩ := (B : ∃ k0, s.Since vm0 k0 ∧ k0 ≤ h.size)
  obtain ⟨s₂, o, h1, h2⟩ := H v T'.heap lt' hQ.1 T' _ T'.vm X' ⟨_, foldS hS (by rw [eT]; exact hk0) hS' hgr, Nat.le_refl _⟩ rfl (N.app hQ.2) (hL.of_vm rfl)
  exact ⟨s₂, o, st.trans h1, h2⟩
end Rules
end Jvm.Own
namespace Jvm.Pilot.@@N@@
open Jvm Jvm.ClassFile Sem Op Lib Jvm.Free Jvm.Stand Jvm.LawKit Jvm.RoadKit Bundle Jvm.Own Jvm.Pilot.@@N@@.Jvm.D
theorem pn_0 : plainName "java/lang/String" = true := by first | (simp [plainName, overriddenIn]; done) | decide +kernel
theorem pn_1 : plainName "java/lang/Record" = true := by first | (simp [plainName, overriddenIn]; done) | decide +kernel
theorem pn_2 : plainName "java/util/Objects" = true := by first | (simp [plainName, overriddenIn]; done) | decide +kernel
theorem pn_3 : plainName "com/example/escrow/escrow/LockRecord" = true := by first | (simp [plainName, overriddenIn]; done) | decide +kernel
theorem pn_4 : plainName "java/lang/StringLatin1" = true := by first | (simp [plainName, overriddenIn]; done) | decide +kernel
theorem pn_5 : plainName "java/lang/StringUTF16" = true := by first | (simp [plainName, overriddenIn]; done) | decide +kernel
theorem pn_6 : plainName "com/example/escrow/escrow/LockRecordUntakenPinLaw" = true := by first | (simp [plainName, overriddenIn]; done) | decide +kernel
theorem pd_0 : parseMethodDescriptor "([CIILjava/lang/Void;)V" = some ⟨[(.array .char), .int, .int, (.object "java/lang/Void")], none⟩ := by decide +kernel
theorem pd_1 : parseMethodDescriptor "([C)V" = some ⟨[(.array .char)], none⟩ := by decide +kernel
theorem pd_2 : parseMethodDescriptor "(Ljava/lang/String;)Lcom/example/escrow/escrow/LockRecord;" = some ⟨[(.object "java/lang/String")], some (.object "com/example/escrow/escrow/LockRecord")⟩ := by decide +kernel
theorem pd_3 : parseMethodDescriptor "(Ljava/lang/String;JLjava/lang/String;Lcom/example/escrow/escrow/Claim;)V" = some ⟨[(.object "java/lang/String"), .long, (.object "java/lang/String"), (.object "com/example/escrow/escrow/Claim")], none⟩ := by decide +kernel
theorem pd_4 : parseMethodDescriptor "()V" = some ⟨[], none⟩ := by decide +kernel
theorem pd_5 : parseMethodDescriptor "(Ljava/lang/Object;Ljava/lang/String;)Ljava/lang/Object;" = some ⟨[(.object "java/lang/Object"), (.object "java/lang/String")], some (.object "java/lang/Object")⟩ := by decide +kernel
theorem pd_6 : parseMethodDescriptor "()Ljava/lang/String;" = some ⟨[], some (.object "java/lang/String")⟩ := by decide +kernel
theorem pd_7 : parseMethodDescriptor "(Ljava/lang/Object;)Z" = some ⟨[(.object "java/lang/Object")], some .boolean⟩ := by decide +kernel
theorem pd_8 : parseMethodDescriptor "()J" = some ⟨[], some .long⟩ := by decide +kernel
theorem pd_9 : parseMethodDescriptor "()Lcom/example/escrow/escrow/Claim;" = some ⟨[], some (.object "com/example/escrow/escrow/Claim")⟩ := by decide +kernel
theorem pd_10 : parseMethodDescriptor "(C)Ljava/lang/String;" = some ⟨[.char], some (.object "java/lang/String")⟩ := by decide +kernel
theorem pd_11 : parseMethodDescriptor "(C)Z" = some ⟨[.char], some .boolean⟩ := by decide +kernel
theorem pd_12 : parseMethodDescriptor "(C)[B" = some ⟨[.char], some (.array .byte)⟩ := by decide +kernel
theorem pd_13 : parseMethodDescriptor "([BB)V" = some ⟨[(.array .byte), .byte], none⟩ := by decide +kernel
theorem pd_14 : parseMethodDescriptor "([CII)[B" = some ⟨[(.array .char), .int, .int], some (.array .byte)⟩ := by decide +kernel
theorem pd_15 : parseMethodDescriptor "([CI[BII)I" = some ⟨[(.array .char), .int, (.array .byte), .int, .int], some .int⟩ := by decide +kernel
theorem pd_16 : parseMethodDescriptor "([BI)B" = some ⟨[(.array .byte), .int], some .byte⟩ := by decide +kernel
theorem own_wS {a0 : Array Value} {Z : State} (hw : ∀ d ∈ tables_1, d.before a0 Z = true) : ∀ d ∈ Bundle.stringAtoms, d.before a0 Z = true := by
  intro d hd
  simp only [Bundle.stringAtoms, List.mem_cons, List.not_mem_nil, or_false] at hd
  rcases hd with rfl | rfl | rfl | rfl | rfl | rfl | rfl
  · exact (hw _ (List.mem_of_getElem? (i := 2) rfl))
  · exact (hw _ (List.mem_of_getElem? (i := 1) rfl))
  · exact (hw _ (List.mem_of_getElem? (i := 15) rfl))
  · exact (hw _ (List.mem_of_getElem? (i := 16) rfl))
  · exact (hw _ (List.mem_of_getElem? (i := 17) rfl))
  · exact (hw _ (List.mem_of_getElem? (i := 18) rfl))
  · exact (hw _ (List.mem_of_getElem? (i := 19) rfl))
theorem lat0 (y : Int32) : ¬ (255 : Int32) < ((y &&& (255 : Int32)).toUInt32.toUInt16.toUInt32.toInt32) := by
  rw [Int32.lt_iff_toInt_lt]
  have h1 := c_i2c (y &&& (255 : Int32))
  have h2 := c_mask y 255 8 (by decide) (by decide)
  have e : (255 : Int32).toInt = 255 := rfl
  omega
theorem latn (y : Int32) : ¬ (255 : Int32) < (nar .char ((y &&& (255 : Int32)).toUInt32.toUInt16.toUInt32.toInt32)) := by
  show ¬ (255 : Int32) < ((((y &&& (255 : Int32)).toUInt32.toUInt16.toUInt32.toInt32)).toUInt32.toUInt16.toUInt32.toInt32)
  rw [Int32.lt_iff_toInt_lt]
  have h0 := c_i2c ((y &&& (255 : Int32)).toUInt32.toUInt16.toUInt32.toInt32)
  have h1 := c_i2c (y &&& (255 : Int32))
  have h2 := c_mask y 255 8 (by decide) (by decide)
  have e : (255 : Int32).toInt = 255 := rfl
  omega
theorem and3 (x : Int32) : x &&& (3 : Int32) = 0 ∨ x &&& (3 : Int32) = 1 ∨ x &&& (3 : Int32) = 2 ∨ x &&& (3 : Int32) = 3 := by
  have h := c_mask x 3 2 (by decide) (by decide)
  generalize x &&& (3 : Int32) = r at h ⊢
  have q : r.toInt = 0 ∨ r.toInt = 1 ∨ r.toInt = 2 ∨ r.toInt = 3 := by omega
  rcases q with q | q | q | q
  · exact Or.inl (Int32.toInt_inj.mp q)
  · exact Or.inr (Or.inl (Int32.toInt_inj.mp q))
  · exact Or.inr (Or.inr (Or.inl (Int32.toInt_inj.mp q)))
  · exact Or.inr (Or.inr (Or.inr (Int32.toInt_inj.mp q)))
theorem d2_0 : decode jdk_42_method_149_code 0 = .ok (.aload_n 0, 1) := by decide +kernel
theorem d2_1 : decode jdk_42_method_149_code 1 = .ok (.invokespecial 1, 3) := by decide +kernel
theorem d2_4 : decode jdk_42_method_149_code 4 = .ok (.iload_n 3, 1) := by decide +kernel
theorem d2_5 : decode jdk_42_method_149_code 5 = .ok (.ifCond .ne 22, 3) := by decide +kernel
theorem d2_8 : decode jdk_42_method_149_code 8 = .ok (.aload_n 0, 1) := by decide +kernel
theorem d2_9 : decode jdk_42_method_149_code 9 = .ok (.ldc 7, 2) := by decide +kernel
theorem d2_11 : decode jdk_42_method_149_code 11 = .ok (.getfield 9, 3) := by decide +kernel
theorem d2_14 : decode jdk_42_method_149_code 14 = .ok (.putfield 9, 3) := by decide +kernel
theorem d2_17 : decode jdk_42_method_149_code 17 = .ok (.aload_n 0, 1) := by decide +kernel
theorem d2_18 : decode jdk_42_method_149_code 18 = .ok (.ldc 7, 2) := by decide +kernel
theorem d2_20 : decode jdk_42_method_149_code 20 = .ok (.getfield 15, 3) := by decide +kernel
theorem d2_23 : decode jdk_42_method_149_code 23 = .ok (.putfield 15, 3) := by decide +kernel
theorem d2_26 : decode jdk_42_method_149_code 26 = .ok (.return_, 1) := by decide +kernel
theorem d2_27 : decode jdk_42_method_149_code 27 = .ok (.getstatic 38, 3) := by decide +kernel
theorem d2_30 : decode jdk_42_method_149_code 30 = .ok (.ifCond .eq 28, 3) := by decide +kernel
theorem d2_33 : decode jdk_42_method_149_code 33 = .ok (.aload_n 1, 1) := by decide +kernel
theorem d2_34 : decode jdk_42_method_149_code 34 = .ok (.iload_n 2, 1) := by decide +kernel
theorem d2_35 : decode jdk_42_method_149_code 35 = .ok (.iload_n 3, 1) := by decide +kernel
theorem d2_36 : decode jdk_42_method_149_code 36 = .ok (.invokestatic 177, 3) := by decide +kernel
theorem d2_39 : decode jdk_42_method_149_code 39 = .ok (.astore 5, 2) := by decide +kernel
theorem d2_41 : decode jdk_42_method_149_code 41 = .ok (.aload_n 0, 1) := by decide +kernel
theorem d2_42 : decode jdk_42_method_149_code 42 = .ok (.aload 5, 2) := by decide +kernel
theorem d2_44 : decode jdk_42_method_149_code 44 = .ok (.iload_n 3, 1) := by decide +kernel
theorem d2_45 : decode jdk_42_method_149_code 45 = .ok (.invokestatic 47, 3) := by decide +kernel
theorem d2_48 : decode jdk_42_method_149_code 48 = .ok (.putfield 15, 3) := by decide +kernel
theorem d2_51 : decode jdk_42_method_149_code 51 = .ok (.aload_n 0, 1) := by decide +kernel
theorem d2_52 : decode jdk_42_method_149_code 52 = .ok (.aload 5, 2) := by decide +kernel
theorem d2_54 : decode jdk_42_method_149_code 54 = .ok (.putfield 9, 3) := by decide +kernel
theorem d2_57 : decode jdk_42_method_149_code 57 = .ok (.return_, 1) := by decide +kernel
theorem d2_58 : decode jdk_42_method_149_code 58 = .ok (.aload_n 0, 1) := by decide +kernel
theorem d2_59 : decode jdk_42_method_149_code 59 = .ok (.iconst 1, 1) := by decide +kernel
theorem d2_60 : decode jdk_42_method_149_code 60 = .ok (.putfield 15, 3) := by decide +kernel
theorem d2_63 : decode jdk_42_method_149_code 63 = .ok (.aload_n 0, 1) := by decide +kernel
theorem d2_64 : decode jdk_42_method_149_code 64 = .ok (.aload_n 1, 1) := by decide +kernel
theorem d2_65 : decode jdk_42_method_149_code 65 = .ok (.iload_n 2, 1) := by decide +kernel
theorem d2_66 : decode jdk_42_method_149_code 66 = .ok (.iload_n 3, 1) := by decide +kernel
theorem d2_67 : decode jdk_42_method_149_code 67 = .ok (.invokestatic 180, 3) := by decide +kernel
theorem d2_70 : decode jdk_42_method_149_code 70 = .ok (.putfield 9, 3) := by decide +kernel
theorem d2_73 : decode jdk_42_method_149_code 73 = .ok (.return_, 1) := by decide +kernel
set_option maxRecDepth 65536 in
set_option maxHeartbeats 40000000 in
theorem own_initE (l : Launch) (Z : State) (a0 : Array Value) (hw : ∀ d ∈ tables_1, d.before a0 Z = true) (n0 : Nat) (h0 : Heap) (hsz : n0 ≤ h0.size) (o b : Addr) (cs : Int32) (v0 v1 : Value) (SC : Sta Z h0 "java/lang/String" "COMPACT_STRINGS" "Z" (.int cs)) (EO : Exa Z h0 o "java/lang/String") (FV : Fld Z h0 o "java/lang/String" "value" "[B" v0) (FC : Fld Z h0 o "java/lang/String" "coder" "B" v1) (G : n0 ≤ o) (hh : Jvm.Lit.constHeld Z "java/lang/String" 7) (hcw : Jvm.Lit.compactW.before a0 Z = true) (hkp : ∀ (b : Addr) (cl : Cell), Z.heap[b]? = some cl → h0[b]? = some cl) :
    MetL l Z n0 (⟨"java/lang/String", "<init>", "([CIILjava/lang/Void;)V"⟩ : MethodName) jdk_42_method_149_code 6 none ({ frames := 1, cells := 2, slots := 4, locals := 12 } : Room) #[(.ref o), (.ref b), (.int (0 : Int32)), (.int (0 : Int32)), .null] (some ("", 0, 0)) h0 (fun v h lt => (v = none ∧ Keep h0 h [o] ∧ Sta Z h "java/lang/String" "COMPACT_STRINGS" "Z" (.int cs)) ∧ lt = none) := by
  intro ws
  refine MetFree.of_bodySF (plainFor_of_name pn_0) hisR ?_
  intro p e s m args below meth c s₁ Bd hml0 hP hK
  obtain ⟨ha, hZ, hh0, hl⟩ := hP
  have hown : s.vm.findClass "java/lang/String" = some m.cls := findClass_of_methodNamed Bd.named
  have hnm := (name_of_methodNamed Bd.named Bd.method).1
  have hx := Bd.exec
  have hby := Bd.bytes
  have e0 : s₁.heap = h0 := by rw [← hh0, Bd.state]; rfl
  have X0 : Stand p l e ({ frames := 1, cells := 2, slots := 4, locals := 12 } : Room) s m args below meth c s₁ [] 0 0 := Stand.of_body Bd
  rw [ha] at X0 ⊢
  have I0 : IB Z s.vm [] := by simpa [Lx] using hl
  obtain ⟨T1, X1, e1, st1⟩ := initO X0 hx hZ hown (hw _ (List.mem_of_getElem? (i := 11) rfl)) (hw _ (List.mem_of_getElem? (i := 12) rfl)) (hw _ (List.mem_of_getElem? (i := 13) rfl)) e0 (g := mkF m 1 #[.val (.ref o), .val (.ref b), .val (.int (0 : Int32)), .val (.int (0 : Int32)), .val .null, .unset] [.ref o]) rfl hml0.symm rfl (hb hby d2_1) (by decide) (W := 0) (Nat.le_of_eq rfl) (by decide)
  obtain ⟨a, T2, h2, k1, bb, kk, X2, e2, E2, hS2, hk2, hZ2, ho2, EA, FCa, FVa, -, la, lb, -, L2, st2⟩ := ldcSVL (s := s) (vm0 := s.vm) X1 hx hZ hown (hw _ (List.mem_of_getElem? (i := 14) rfl)) (own_wS hw) e1 ((State.WarmedH.refl s).since 0) (Nat.zero_le _) (Fr.nil _) (fun b cl q => by rw [hh0]; exact hkp b cl q) I0 (by simp) hh hcw (vs := []) (z := 0) ⟨by simp, rfl⟩ (by decide) (by decide) (g := mkF m 9 #[.val (.ref o), .val (.ref b), .val (.int (0 : Int32)), .val (.int (0 : Int32)), .val .null, .unset] [.ref o]) rfl (hb hby d2_9) (n := 0) (by decide) (by decide) (by decide) (by decide)
  obtain ⟨T3, X3, e3, st3⟩ := getF X2 hx hZ2 ho2 (host := "") (Or.inl (hw _ (List.mem_of_getElem? (i := 20) rfl))) Via.refl e2 FVa (g := mkF m 11 #[.val (.ref o), .val (.ref b), .val (.int (0 : Int32)), .val (.int (0 : Int32)), .val .null, .unset] [.ref a, .ref o]) rfl rfl (hb hby d2_11)
  obtain ⟨T4, h4, X4, e4, W4, st4⟩ := putF X3 hx hZ2 ho2 (host := "") (Or.inl (hw _ (List.mem_of_getElem? (i := 20) rfl))) Via.refl e3 (FV.ext E2) (EO.ext E2) (Or.inr ⟨(hw _ (List.mem_of_getElem? (i := 16) rfl)), rfl, hnm⟩) (hw _ (List.mem_of_getElem? (i := 1) rfl)) (ty := .array .byte) (by decide) rfl rfl (g := mkF m 14 #[.val (.ref o), .val (.ref b), .val (.int (0 : Int32)), .val (.int (0 : Int32)), .val .null, .unset] [.ref bb, .ref o]) rfl rfl (hb hby d2_14)
  have FCa4 := FCa.other W4 (Or.inr (slot_ne (Or.inr (hw _ (List.mem_of_getElem? (i := 17) rfl))) (Or.inr (hw _ (List.mem_of_getElem? (i := 16) rfl))) (by decide) (t := .byte) (t' := .array .byte) (by decide) (by decide)))
  have FCo4 := (FC.ext E2).other W4 (Or.inr (slot_ne (Or.inr (hw _ (List.mem_of_getElem? (i := 17) rfl))) (Or.inr (hw _ (List.mem_of_getElem? (i := 16) rfl))) (by decide) (t := .byte) (t' := .array .byte) (by decide) (by decide)))
  have st5 := ldcAgain X4 hx hZ2 ho2 (hw _ (List.mem_of_getElem? (i := 14) rfl)) L2 (g := mkF m 18 #[.val (.ref o), .val (.ref b), .val (.int (0 : Int32)), .val (.int (0 : Int32)), .val .null, .unset] [.ref o]) rfl (hb hby d2_18)
  obtain ⟨T6, X6, e6, st6⟩ := getF X4 hx hZ2 ho2 (host := "") (Or.inl (hw _ (List.mem_of_getElem? (i := 21) rfl))) Via.refl e4 FCa4 (g := mkF m 20 #[.val (.ref o), .val (.ref b), .val (.int (0 : Int32)), .val (.int (0 : Int32)), .val .null, .unset] [.ref a, .ref o]) rfl rfl (hb hby d2_20)
  obtain ⟨T7, h7, X7, e7, W7, st7⟩ := putFN X6 hx hZ2 ho2 (hw _ (List.mem_of_getElem? (i := 21) rfl)) Via.refl e6 FCo4 ((EO.ext E2).wr W4) (Or.inr ⟨(hw _ (List.mem_of_getElem? (i := 17) rfl)), rfl, hnm⟩) (hw _ (List.mem_of_getElem? (i := 1) rfl)) (ty := .byte) (v' := .int 0) (by decide) rfl (by decide) (g := mkF m 23 #[.val (.ref o), .val (.ref b), .val (.int (0 : Int32)), .val (.int (0 : Int32)), .val .null, .unset] [.int 0, .ref o]) rfl rfl (hb hby d2_23)
  have N7 := Fr.snoc X7 (Fr.snoc X4 (Fr.nil n0) G) G
  have K7 : Keep h0 h7 [o] := (((Keep.refl h0 [o]).ext E2).wr W4 (Or.inl (by simp))).wr W7 (Or.inl (by simp))
  have S7 := ((SC.ext E2).wr W4).wr W7
  have hlk := Bd.notSynchronized
  obtain ⟨fs, hr, hrun, hended, hE⟩ := X7.leaveW hS2 (by rw [e7]; exact Nat.le_trans hk2 (Nat.le_of_eq (by rw [W7.size, W4.size]))) (v := none) (fun _ => rfl) hlk
  refine ⟨_, _, castTop (show entryFrame m _ 6 = mkF m 0 #[.val (.ref o), .val (.ref b), .val (.int (0 : Int32)), .val (.int (0 : Int32)), .val .null, .unset] [] by first | (simp [entryFrame, mkF, argsToLocals, Value.category]; done) | rfl) ?_, hrun, hended, _, _, none, rfl, ⟨⟨⟨rfl, ?_, ?_⟩, rfl⟩, N7⟩, trivial, hE.1, hE.2.1, hE.2.2.1, hE.2.2.2.mono (by decide) (by decide)⟩
  · refine XS.aloadN X0.here hx rfl (hb hby d2_0) rfl rfl ?_
    refine st1 _ ?_
    show Steps p.tables e below (T1.setTop (mkF m 4 #[.val (.ref o), .val (.ref b), .val (.int (0 : Int32)), .val (.int (0 : Int32)), .val .null, .unset] [])) _
    refine XS.iloadN X1.here hx rfl (hb hby d2_4) rfl ?_
    show Steps p.tables e below (T1.setTop (mkF m 5 #[.val (.ref o), .val (.ref b), .val (.int (0 : Int32)), .val (.int (0 : Int32)), .val .null, .unset] [.int (0 : Int32)])) _
    refine XS.ifNo X1.here hx rfl (hb hby d2_5) rfl (XT.i0_ne_f (by decide)) ?_
    show Steps p.tables e below (T1.setTop (mkF m 8 #[.val (.ref o), .val (.ref b), .val (.int (0 : Int32)), .val (.int (0 : Int32)), .val .null, .unset] [])) _
    refine XS.aloadN X1.here hx rfl (hb hby d2_8) rfl rfl ?_
    show Steps p.tables e below (T1.setTop (mkF m 9 #[.val (.ref o), .val (.ref b), .val (.int (0 : Int32)), .val (.int (0 : Int32)), .val .null, .unset] [.ref o])) _
    refine st2 _ (st3 _ (st4 _ ?_))
    show Steps p.tables e below (T4.setTop (mkF m 17 #[.val (.ref o), .val (.ref b), .val (.int (0 : Int32)), .val (.int (0 : Int32)), .val .null, .unset] [])) _
    refine XS.aloadN X4.here hx rfl (hb hby d2_17) rfl rfl ?_
    show Steps p.tables e below (T4.setTop (mkF m 18 #[.val (.ref o), .val (.ref b), .val (.int (0 : Int32)), .val (.int (0 : Int32)), .val .null, .unset] [.ref o])) _
    refine st5 _ (st6 _ (st7 _ ?_))
    show Steps p.tables e below (T7.setTop (mkF m 26 #[.val (.ref o), .val (.ref b), .val (.int (0 : Int32)), .val (.int (0 : Int32)), .val .null, .unset] [])) _
    exact X7.returnOut hx Bd.returns (hb hby d2_26) hr
  · show Keep h0 T7.heap [o]
    rw [e7]; exact K7
  · show Sta Z T7.heap _ _ _ _
    rw [e7]; exact S7
theorem d1_0 : decode jdk_42_method_3_code 0 = .ok (.aload_n 0, 1) := by decide +kernel
theorem d1_1 : decode jdk_42_method_3_code 1 = .ok (.aload_n 1, 1) := by decide +kernel
theorem d1_2 : decode jdk_42_method_3_code 2 = .ok (.iconst 0, 1) := by decide +kernel
theorem d1_3 : decode jdk_42_method_3_code 3 = .ok (.aload_n 1, 1) := by decide +kernel
theorem d1_4 : decode jdk_42_method_3_code 4 = .ok (.arraylength, 1) := by decide +kernel
theorem d1_5 : decode jdk_42_method_3_code 5 = .ok (.aconst_null, 1) := by decide +kernel
theorem d1_6 : decode jdk_42_method_3_code 6 = .ok (.invokespecial 27, 3) := by decide +kernel
theorem d1_9 : decode jdk_42_method_3_code 9 = .ok (.return_, 1) := by decide +kernel
set_option maxRecDepth 65536 in
set_option maxHeartbeats 40000000 in
theorem own_init0 (l : Launch) (Z : State) (a0 : Array Value) (hw : ∀ d ∈ tables_1, d.before a0 Z = true) (n0 : Nat) (h0 : Heap) (hsz : n0 ≤ h0.size) (o b : Addr) (cs : Int32) (v0 v1 : Value) (SC : Sta Z h0 "java/lang/String" "COMPACT_STRINGS" "Z" (.int cs)) (EO : Exa Z h0 o "java/lang/String") (FV : Fld Z h0 o "java/lang/String" "value" "[B" v0) (FC : Fld Z h0 o "java/lang/String" "coder" "B" v1) (G : n0 ≤ o) (hh : Jvm.Lit.constHeld Z "java/lang/String" 7) (hcw : Jvm.Lit.compactW.before a0 Z = true) (hkp : ∀ (b : Addr) (cl : Cell), Z.heap[b]? = some cl → h0[b]? = some cl) (FB : Fa Z h0 b .char 0 (fun _ => (.int (0 : Int32)))) :
    MetL l Z n0 (⟨"java/lang/String", "<init>", "([C)V"⟩ : MethodName) jdk_42_method_3_code 2 none ({ frames := 2, cells := 2, slots := 4, locals := 29 } : Room) #[(.ref o), (.ref b)] (some ("", 0, 0)) h0 (fun v h lt => (v = none ∧ Keep h0 h [o] ∧ Sta Z h "java/lang/String" "COMPACT_STRINGS" "Z" (.int cs)) ∧ lt = none) := by
  refine MetL.of (plainFor_of_name pn_0) #[.val (.ref o), .val (.ref b)] (fun m => by first | (simp [entryFrame, mkF, argsToLocals, Value.category]; done) | rfl) ?_
  intro p e s m below meth c C
  refine Wl.st (g' := (mkF m 1 #[.val (.ref o), .val (.ref b)] [(.ref o)])) (fun X t q => XS.aloadN X.here C.hx rfl (hb C.hby d1_0) rfl rfl q) ?_
  refine Wl.st (g' := (mkF m 2 #[.val (.ref o), .val (.ref b)] [(.ref b), (.ref o)])) (fun X t q => XS.aloadN X.here C.hx rfl (hb C.hby d1_1) rfl rfl q) ?_
  refine Wl.st (g' := (mkF m 3 #[.val (.ref o), .val (.ref b)] [(.int (0 : Int32)), (.ref b), (.ref o)])) (fun X t q => XS.iconst X.here C.hx rfl (hb C.hby d1_2) q) ?_
  refine Wl.st (g' := (mkF m 4 #[.val (.ref o), .val (.ref b)] [(.ref b), (.int (0 : Int32)), (.ref b), (.ref o)])) (fun X t q => XS.aloadN X.here C.hx rfl (hb C.hby d1_3) rfl rfl q) ?_
  refine Wl.fLen C FB (z := (0 : Int32)) (by decide) d1_4 ?_
  show Wl _ p l e _ s m _ below meth c n0 _ (some ("", 0, 0)) h0 0 0 (mkF m 5 #[.val (.ref o), .val (.ref b)] [(.int (0 : Int32)), (.int (0 : Int32)), (.ref b), (.ref o)])
  refine Wl.st (g' := (mkF m 6 #[.val (.ref o), .val (.ref b)] [.null, (.int (0 : Int32)), (.int (0 : Int32)), (.ref b), (.ref o)])) (fun X t q => XS.aconstNull X.here C.hx rfl (hb C.hby d1_5) q) ?_
  refine Wl.callI C (z := (⟨"java/lang/String", "<init>", "([CIILjava/lang/Void;)V"⟩ : MethodName)) rfl (hw _ (List.mem_of_getElem? (i := 7) rfl)) (hw _ (List.mem_of_getElem? (i := 8) rfl)) (hw _ (List.mem_of_getElem? (i := 2) rfl)) (hw _ (List.mem_of_getElem? (i := 10) rfl)) (by decide) (own_initE l Z a0 hw n0 h0 hsz o b cs v0 v1 SC EO FV FC G hh hcw hkp) (w := 0) (by decide) (by decide) pd_0 rfl (rest := []) rfl rfl (Nat.le_of_eq rfl) (by decide) (by decide) d1_6 ?_
  rintro _ h1 _ ⟨⟨rfl, K1, S1⟩, rfl⟩
  show Wl _ p l e _ s m _ below meth c n0 _ none h1 2 4 (mkF m 9 #[.val (.ref o), .val (.ref b)] [])
  exact Wl.retN0 C rfl d1_9 (by decide) (by decide) ⟨⟨rfl, K1, S1⟩, rfl⟩
theorem d6_0 : decode jdk_30_method_1_code 0 = .ok (.aload_n 0, 1) := by decide +kernel
theorem d6_1 : decode jdk_30_method_1_code 1 = .ok (.invokespecial 1, 3) := by decide +kernel
theorem d6_4 : decode jdk_30_method_1_code 4 = .ok (.return_, 1) := by decide +kernel
set_option maxRecDepth 65536 in
set_option maxHeartbeats 40000000 in
theorem own_6_0 (l : Launch) (Z : State) (a0 : Array Value) (hw : ∀ d ∈ tables_1, d.before a0 Z = true) (n0 : Nat) (h0 : Heap) (hsz : n0 ≤ h0.size) (o0 : Addr) (x0 : Int32) (P0 : Sta Z h0 "java/lang/String" "COMPACT_STRINGS" "Z" (.int x0)) (P1 : Exa Z h0 o0 "com/example/escrow/escrow/LockRecord") (P2 : Fld Z h0 o0 "com/example/escrow/escrow/LockRecord" "name" "Ljava/lang/String;" .null) (P3 : Fld Z h0 o0 "com/example/escrow/escrow/LockRecord" "token" "J" (.long (0 : Int64))) (P4 : Fld Z h0 o0 "com/example/escrow/escrow/LockRecord" "owner" "Ljava/lang/String;" .null) (P5 : Fld Z h0 o0 "com/example/escrow/escrow/LockRecord" "claim" "Lcom/example/escrow/escrow/Claim;" .null) (G_o0 : n0 ≤ o0) (nz_x0 : ¬ x0 = (0 : Int32)) :
    Met true l Z n0 (⟨"java/lang/Record", "<init>", "()V"⟩ : MethodName) jdk_30_method_1_code 1 none ({ frames := 1, cells := 0, slots := 0, locals := 12 } : Room) #[(.ref o0)] h0 (fun v h => v = none ∧ h0 = h) := by
  refine Met.of (plainFor_of_name pn_1) #[.val (.ref o0)] (fun m => by first | (simp [entryFrame, mkF, argsToLocals, Value.category]; done) | rfl) ?_
  intro p e s m below meth c C
  refine Wk.st (g' := (mkF m 1 #[.val (.ref o0)] [(.ref o0)])) (fun X t q => XS.aloadN X.here C.hx rfl (hb C.hby d6_0) rfl rfl q) ?_
  refine Wk.initO C (hw _ (List.mem_of_getElem? (i := 36) rfl)) (hw _ (List.mem_of_getElem? (i := 12) rfl)) (hw _ (List.mem_of_getElem? (i := 13) rfl)) (w := 0) rfl d6_1 (by decide) (Nat.le_of_eq rfl) (by decide) ?_
  show Wk _ p l e _ s m _ below meth c n0 _ h0 0 0 (mkF m 4 #[.val (.ref o0)] [])
  exact Wk.retN0 C rfl d6_4 (by decide) (by decide) ⟨rfl, rfl⟩
theorem d7_0 : decode jdk_31_method_11_code 0 = .ok (.aload_n 0, 1) := by decide +kernel
theorem d7_1 : decode jdk_31_method_11_code 1 = .ok (.ifnonnull 12, 3) := by decide +kernel
theorem d7_4 : decode jdk_31_method_11_code 4 = .ok (.new 84, 3) := by decide +kernel
theorem d7_7 : decode jdk_31_method_11_code 7 = .ok (.dup, 1) := by decide +kernel
theorem d7_8 : decode jdk_31_method_11_code 8 = .ok (.aload_n 1, 1) := by decide +kernel
theorem d7_9 : decode jdk_31_method_11_code 9 = .ok (.invokespecial 87, 3) := by decide +kernel
theorem d7_12 : decode jdk_31_method_11_code 12 = .ok (.athrow, 1) := by decide +kernel
theorem d7_13 : decode jdk_31_method_11_code 13 = .ok (.aload_n 0, 1) := by decide +kernel
theorem d7_14 : decode jdk_31_method_11_code 14 = .ok (.areturn, 1) := by decide +kernel
set_option maxRecDepth 65536 in
set_option maxHeartbeats 40000000 in
theorem own_7_1 (l : Launch) (Z : State) (a0 : Array Value) (hw : ∀ d ∈ tables_1, d.before a0 Z = true) (n0 : Nat) (h0 : Heap) (hsz : n0 ≤ h0.size) (o0 : Addr) (o1 : Addr) (x0 : Int32) (P0 : Sta Z h0 "java/lang/String" "COMPACT_STRINGS" "Z" (.int x0)) (P1 : Exa Z h0 o0 "java/lang/String") (G_o0 : n0 ≤ o0) (nz_x0 : ¬ x0 = (0 : Int32)) :
    Met true l Z n0 (⟨"java/util/Objects", "requireNonNull", "(Ljava/lang/Object;Ljava/lang/String;)Ljava/lang/Object;"⟩ : MethodName) jdk_31_method_11_code 2 (some (.object "java/lang/Object")) ({ frames := 0, cells := 0, slots := 0, locals := 0 } : Room) #[(.ref o0), (.ref o1)] h0 (fun v h => v = some (.ref o0) ∧ h0 = h) := by
  refine Met.of (plainFor_of_name pn_2) #[.val (.ref o0), .val (.ref o1)] (fun m => by first | (simp [entryFrame, mkF, argsToLocals, Value.category]; done) | rfl) ?_
  intro p e s m below meth c C
  refine Wk.st (g' := (mkF m 1 #[.val (.ref o0), .val (.ref o1)] [(.ref o0)])) (fun X t q => XS.aloadN X.here C.hx rfl (hb C.hby d7_0) rfl rfl q) ?_
  refine Wk.st (g' := (mkF m 13 #[.val (.ref o0), .val (.ref o1)] [])) (fun X t q => XS.ifnonnullYes X.here C.hx rfl (pc0 := 1) (pc' := 13) rfl (hb C.hby d7_1) rfl (by decide) (by decide) q) ?_
  refine Wk.st (g' := (mkF m 14 #[.val (.ref o0), .val (.ref o1)] [(.ref o0)])) (fun X t q => XS.aloadN X.here C.hx rfl (hb C.hby d7_13) rfl rfl q) ?_
  exact Wk.retV C (t := (.object "java/lang/Object")) rfl rfl (Or.inr (Or.inr (Or.inr (Or.inr ⟨rfl, rfl, rfl⟩)))) d7_14 (by decide) (by decide) ⟨rfl, rfl⟩
theorem d5_0 : decode prog_25_method_1_code 0 = .ok (.aload_n 0, 1) := by decide +kernel
theorem d5_1 : decode prog_25_method_1_code 1 = .ok (.invokespecial 1, 3) := by decide +kernel
theorem d5_4 : decode prog_25_method_1_code 4 = .ok (.aload_n 1, 1) := by decide +kernel
theorem d5_5 : decode prog_25_method_1_code 5 = .ok (.ldc 7, 2) := by decide +kernel
theorem d5_7 : decode prog_25_method_1_code 7 = .ok (.invokestatic 9, 3) := by decide +kernel
theorem d5_10 : decode prog_25_method_1_code 10 = .ok (.pop, 1) := by decide +kernel
theorem d5_11 : decode prog_25_method_1_code 11 = .ok (.aload_n 0, 1) := by decide +kernel
theorem d5_12 : decode prog_25_method_1_code 12 = .ok (.aload_n 1, 1) := by decide +kernel
theorem d5_13 : decode prog_25_method_1_code 13 = .ok (.putfield 15, 3) := by decide +kernel
theorem d5_16 : decode prog_25_method_1_code 16 = .ok (.aload_n 0, 1) := by decide +kernel
theorem d5_17 : decode prog_25_method_1_code 17 = .ok (.lload_n 2, 1) := by decide +kernel
theorem d5_18 : decode prog_25_method_1_code 18 = .ok (.putfield 20, 3) := by decide +kernel
theorem d5_21 : decode prog_25_method_1_code 21 = .ok (.aload_n 0, 1) := by decide +kernel
theorem d5_22 : decode prog_25_method_1_code 22 = .ok (.aload 4, 2) := by decide +kernel
theorem d5_24 : decode prog_25_method_1_code 24 = .ok (.putfield 24, 3) := by decide +kernel
theorem d5_27 : decode prog_25_method_1_code 27 = .ok (.aload_n 0, 1) := by decide +kernel
theorem d5_28 : decode prog_25_method_1_code 28 = .ok (.aload 5, 2) := by decide +kernel
theorem d5_30 : decode prog_25_method_1_code 30 = .ok (.putfield 27, 3) := by decide +kernel
theorem d5_33 : decode prog_25_method_1_code 33 = .ok (.return_, 1) := by decide +kernel
set_option maxRecDepth 65536 in
set_option maxHeartbeats 40000000 in
theorem own_5_0 (l : Launch) (Z : State) (a0 : Array Value) (hw : ∀ d ∈ tables_1, d.before a0 Z = true) (n0 : Nat) (h0 : Heap) (hsz : n0 ≤ h0.size) (o0 : Addr) (o1 : Addr) (x0 : Int32) (P0 : Sta Z h0 "java/lang/String" "COMPACT_STRINGS" "Z" (.int x0)) (P1 : Exa Z h0 o1 "java/lang/String") (P2 : Exa Z h0 o0 "com/example/escrow/escrow/LockRecord") (P3 : Fld Z h0 o0 "com/example/escrow/escrow/LockRecord" "name" "Ljava/lang/String;" .null) (P4 : Fld Z h0 o0 "com/example/escrow/escrow/LockRecord" "token" "J" (.long (0 : Int64))) (P5 : Fld Z h0 o0 "com/example/escrow/escrow/LockRecord" "owner" "Ljava/lang/String;" .null) (P6 : Fld Z h0 o0 "com/example/escrow/escrow/LockRecord" "claim" "Lcom/example/escrow/escrow/Claim;" .null) (N_o0_o1 : o0 ≠ o1) (G_o0 : n0 ≤ o0) (G_o1 : n0 ≤ o1) (nz_x0 : ¬ x0 = (0 : Int32)) :
    Met true l Z n0 (⟨"com/example/escrow/escrow/LockRecord", "<init>", "(Ljava/lang/String;JLjava/lang/String;Lcom/example/escrow/escrow/Claim;)V"⟩ : MethodName) prog_25_method_1_code 6 none ({ frames := 2, cells := 2, slots := 20, locals := 24 } : Room) #[(.ref o0), (.ref o1), (.long (0 : Int64)), .null, .null] h0 (fun v h => v = none ∧ Keep h0 h [o0] ∧ Sta Z h "java/lang/String" "COMPACT_STRINGS" "Z" (.int x0) ∧ Fld Z h o0 "com/example/escrow/escrow/LockRecord" "name" "Ljava/lang/String;" (.ref o1) ∧ Fld Z h o0 "com/example/escrow/escrow/LockRecord" "token" "J" (.long (0 : Int64)) ∧ Fld Z h o0 "com/example/escrow/escrow/LockRecord" "owner" "Ljava/lang/String;" .null ∧ Fld Z h o0 "com/example/escrow/escrow/LockRecord" "claim" "Lcom/example/escrow/escrow/Claim;" .null) := by
  refine Met.of (plainFor_of_name pn_3) #[.val (.ref o0), .val (.ref o1), .val (.long (0 : Int64)), .second, .val .null, .val .null] (fun m => by first | (simp [entryFrame, mkF, argsToLocals, Value.category]; done) | rfl) ?_
  intro p e s m below meth c C
  refine Wk.st (g' := (mkF m 1 #[.val (.ref o0), .val (.ref o1), .val (.long (0 : Int64)), .second, .val .null, .val .null] [(.ref o0)])) (fun X t q => XS.aloadN X.here C.hx rfl (hb C.hby d5_0) rfl rfl q) ?_
  refine Wk.callI C (z := (⟨"java/lang/Record", "<init>", "()V"⟩ : MethodName)) rfl (hw _ (List.mem_of_getElem? (i := 31) rfl)) (hw _ (List.mem_of_getElem? (i := 32) rfl)) (hw _ (List.mem_of_getElem? (i := 34) rfl)) (hw _ (List.mem_of_getElem? (i := 35) rfl)) (by decide) (own_6_0 l Z a0 hw n0 h0 hsz o0 x0 P0 P2 P3 P4 P5 P6  G_o0 nz_x0) (w := 0) (by decide) (by decide) pd_4 rfl (rest := []) rfl rfl (Nat.le_of_eq rfl) (by decide) (by decide) d5_1 ?_
  rintro _ _ ⟨rfl, rfl⟩
  show Wk _ p l e _ s m _ below meth c n0 _ h0 0 0 (mkF m 4 #[.val (.ref o0), .val (.ref o1), .val (.long (0 : Int64)), .second, .val .null, .val .null] [])
  refine Wk.st (g' := (mkF m 5 #[.val (.ref o0), .val (.ref o1), .val (.long (0 : Int64)), .second, .val .null, .val .null] [(.ref o1)])) (fun X t q => XS.aloadN X.here C.hx rfl (hb C.hby d5_4) rfl rfl q) ?_
  refine Wk.ldcS C (hw _ (List.mem_of_getElem? (i := 37) rfl)) (own_wS hw) (N := 16) (by decide) (by decide) d5_5 (by decide) (by decide) ?_
  intro h4 a5 E6
  have F7 : Sta Z h4 "java/lang/String" "COMPACT_STRINGS" "Z" (.int x0) := P0.ext E6
  have F8 : Exa Z h4 o1 "java/lang/String" := P1.ext E6
  have F9 : Exa Z h4 o0 "com/example/escrow/escrow/LockRecord" := P2.ext E6
  have F10 : Fld Z h4 o0 "com/example/escrow/escrow/LockRecord" "name" "Ljava/lang/String;" .null := P3.ext E6
  have F11 : Fld Z h4 o0 "com/example/escrow/escrow/LockRecord" "token" "J" (.long (0 : Int64)) := P4.ext E6
  have F12 : Fld Z h4 o0 "com/example/escrow/escrow/LockRecord" "owner" "Ljava/lang/String;" .null := P5.ext E6
  have F13 : Fld Z h4 o0 "com/example/escrow/escrow/LockRecord" "claim" "Lcom/example/escrow/escrow/Claim;" .null := P6.ext E6
  have sz14 : n0 ≤ h4.size := Nat.le_trans hsz E6.1
  have sy15 : h0.size ≤ h4.size := Nat.le_trans (Nat.le_refl h0.size) E6.1
  have K16 := (Keep.refl h0 [o0]).ext E6
  show Wk _ p l e _ s m _ below meth c n0 _ h4 2 20 (mkF m 7 #[.val (.ref o0), .val (.ref o1), .val (.long (0 : Int64)), .second, .val .null, .val .null] [(.ref a5), (.ref o1)])
  refine Wk.callS C (z := (⟨"java/util/Objects", "requireNonNull", "(Ljava/lang/Object;Ljava/lang/String;)Ljava/lang/Object;"⟩ : MethodName)) (hw _ (List.mem_of_getElem? (i := 38) rfl)) (hw _ (List.mem_of_getElem? (i := 39) rfl)) (hw _ (List.mem_of_getElem? (i := 40) rfl)) (hw _ (List.mem_of_getElem? (i := 41) rfl)) (by decide) (own_7_1 l Z a0 hw n0 h4 sz14 o1 a5 x0 F7 F8  G_o1 nz_x0) (w := 0) (by decide) (by decide) pd_5 rfl (rest := []) rfl rfl (Nat.le_of_eq rfl) (by decide) (by decide) d5_7 ?_
  rintro _ _ ⟨rfl, rfl⟩
  show Wk _ p l e _ s m _ below meth c n0 _ h4 2 20 (mkF m 10 #[.val (.ref o0), .val (.ref o1), .val (.long (0 : Int64)), .second, .val .null, .val .null] [(.ref o1)])
  refine Wk.st (g' := (mkF m 11 #[.val (.ref o0), .val (.ref o1), .val (.long (0 : Int64)), .second, .val .null, .val .null] [])) (fun X t q => XS.pop X.here C.hx rfl (hb C.hby d5_10) rfl rfl q) ?_
  refine Wk.st (g' := (mkF m 12 #[.val (.ref o0), .val (.ref o1), .val (.long (0 : Int64)), .second, .val .null, .val .null] [(.ref o0)])) (fun X t q => XS.aloadN X.here C.hx rfl (hb C.hby d5_11) rfl rfl q) ?_
  refine Wk.st (g' := (mkF m 13 #[.val (.ref o0), .val (.ref o1), .val (.long (0 : Int64)), .second, .val .null, .val .null] [(.ref o1), (.ref o0)])) (fun X t q => XS.aloadN X.here C.hx rfl (hb C.hby d5_12) rfl rfl q) ?_
  refine Wk.putF C (hw _ (List.mem_of_getElem? (i := 42) rfl)) Via.refl F10 F9 (Or.inr ⟨(hw _ (List.mem_of_getElem? (i := 43) rfl)), rfl, rfl⟩) (hw _ (List.mem_of_getElem? (i := 27) rfl)) (ty := (.object "java/lang/String")) (by decide) (v' := (.ref o1)) rfl rfl G_o0 d5_13 ?_
  intro h20 W21
  have F22 : Fld Z h20 o0 "com/example/escrow/escrow/LockRecord" "name" "Ljava/lang/String;" (.ref o1) := F10.same W21
  have F23 : Sta Z h20 "java/lang/String" "COMPACT_STRINGS" "Z" (.int x0) := F7.wr W21
  have F24 : Exa Z h20 o1 "java/lang/String" := F8.wr W21
  have F25 : Exa Z h20 o0 "com/example/escrow/escrow/LockRecord" := F9.wr W21
  have F26 : Fld Z h20 o0 "com/example/escrow/escrow/LockRecord" "token" "J" (.long (0 : Int64)) := F11.other W21 (Or.inr (slot_ne (Or.inr (hw _ (List.mem_of_getElem? (i := 45) rfl))) (Or.inr (hw _ (List.mem_of_getElem? (i := 43) rfl))) (by decide) (t := .long) (t' := (.object "java/lang/String")) (by decide) (by decide)))
  have F27 : Fld Z h20 o0 "com/example/escrow/escrow/LockRecord" "owner" "Ljava/lang/String;" .null := F12.other W21 (Or.inr (slot_ne (Or.inr (hw _ (List.mem_of_getElem? (i := 47) rfl))) (Or.inr (hw _ (List.mem_of_getElem? (i := 43) rfl))) (by decide) (t := (.object "java/lang/String")) (t' := (.object "java/lang/String")) (by decide) (by decide)))
  have F28 : Fld Z h20 o0 "com/example/escrow/escrow/LockRecord" "claim" "Lcom/example/escrow/escrow/Claim;" .null := F13.other W21 (Or.inr (slot_ne (Or.inr (hw _ (List.mem_of_getElem? (i := 49) rfl))) (Or.inr (hw _ (List.mem_of_getElem? (i := 43) rfl))) (by decide) (t := (.object "com/example/escrow/escrow/Claim")) (t' := (.object "java/lang/String")) (by decide) (by decide)))
  have sz29 : n0 ≤ h20.size := Nat.le_trans sz14 (Nat.le_of_eq W21.size.symm)
  have sy30 : h0.size ≤ h20.size := Nat.le_trans sy15 (Nat.le_of_eq W21.size.symm)
  have K31 := K16.wr W21 (Or.inl (by simp))
  show Wk _ p l e _ s m _ below meth c n0 _ h20 2 20 (mkF m 16 #[.val (.ref o0), .val (.ref o1), .val (.long (0 : Int64)), .second, .val .null, .val .null] [])
  refine Wk.st (g' := (mkF m 17 #[.val (.ref o0), .val (.ref o1), .val (.long (0 : Int64)), .second, .val .null, .val .null] [(.ref o0)])) (fun X t q => XS.aloadN X.here C.hx rfl (hb C.hby d5_16) rfl rfl q) ?_
  refine Wk.st (g' := (mkF m 18 #[.val (.ref o0), .val (.ref o1), .val (.long (0 : Int64)), .second, .val .null, .val .null] [(.long (0 : Int64)), (.ref o0)])) (fun X t q => XS.lloadN X.here C.hx rfl (hb C.hby d5_17) rfl q) ?_
  refine Wk.putF C (hw _ (List.mem_of_getElem? (i := 44) rfl)) Via.refl F26 F25 (Or.inr ⟨(hw _ (List.mem_of_getElem? (i := 45) rfl)), rfl, rfl⟩) (hw _ (List.mem_of_getElem? (i := 27) rfl)) (ty := .long) (by decide) (v' := (.long (0 : Int64))) rfl rfl G_o0 d5_18 ?_
  intro h32 W33
  have F34 : Fld Z h32 o0 "com/example/escrow/escrow/LockRecord" "token" "J" (.long (0 : Int64)) := F26.same W33
  have F35 : Sta Z h32 "java/lang/String" "COMPACT_STRINGS" "Z" (.int x0) := F23.wr W33
  have F36 : Exa Z h32 o1 "java/lang/String" := F24.wr W33
  have F37 : Exa Z h32 o0 "com/example/escrow/escrow/LockRecord" := F25.wr W33
  have F38 : Fld Z h32 o0 "com/example/escrow/escrow/LockRecord" "owner" "Ljava/lang/String;" .null := F27.other W33 (Or.inr (slot_ne (Or.inr (hw _ (List.mem_of_getElem? (i := 47) rfl))) (Or.inr (hw _ (List.mem_of_getElem? (i := 45) rfl))) (by decide) (t := (.object "java/lang/String")) (t' := .long) (by decide) (by decide)))
  have F39 : Fld Z h32 o0 "com/example/escrow/escrow/LockRecord" "claim" "Lcom/example/escrow/escrow/Claim;" .null := F28.other W33 (Or.inr (slot_ne (Or.inr (hw _ (List.mem_of_getElem? (i := 49) rfl))) (Or.inr (hw _ (List.mem_of_getElem? (i := 45) rfl))) (by decide) (t := (.object "com/example/escrow/escrow/Claim")) (t' := .long) (by decide) (by decide)))
  have F40 : Fld Z h32 o0 "com/example/escrow/escrow/LockRecord" "name" "Ljava/lang/String;" (.ref o1) := F22.other W33 (Or.inr (slot_ne (Or.inr (hw _ (List.mem_of_getElem? (i := 43) rfl))) (Or.inr (hw _ (List.mem_of_getElem? (i := 45) rfl))) (by decide) (t := (.object "java/lang/String")) (t' := .long) (by decide) (by decide)))
  have sz41 : n0 ≤ h32.size := Nat.le_trans sz29 (Nat.le_of_eq W33.size.symm)
  have sy42 : h0.size ≤ h32.size := Nat.le_trans sy30 (Nat.le_of_eq W33.size.symm)
  have K43 := K31.wr W33 (Or.inl (by simp))
  show Wk _ p l e _ s m _ below meth c n0 _ h32 2 20 (mkF m 21 #[.val (.ref o0), .val (.ref o1), .val (.long (0 : Int64)), .second, .val .null, .val .null] [])
  refine Wk.st (g' := (mkF m 22 #[.val (.ref o0), .val (.ref o1), .val (.long (0 : Int64)), .second, .val .null, .val .null] [(.ref o0)])) (fun X t q => XS.aloadN X.here C.hx rfl (hb C.hby d5_21) rfl rfl q) ?_
  refine Wk.st (g' := (mkF m 24 #[.val (.ref o0), .val (.ref o1), .val (.long (0 : Int64)), .second, .val .null, .val .null] [.null, (.ref o0)])) (fun X t q => XS.aload X.here C.hx rfl (hb C.hby d5_22) rfl rfl q) ?_
  refine Wk.putF C (hw _ (List.mem_of_getElem? (i := 46) rfl)) Via.refl F38 F37 (Or.inr ⟨(hw _ (List.mem_of_getElem? (i := 47) rfl)), rfl, rfl⟩) (hw _ (List.mem_of_getElem? (i := 27) rfl)) (ty := (.object "java/lang/String")) (by decide) (v' := .null) rfl rfl G_o0 d5_24 ?_
  intro h44 W45
  have F46 : Fld Z h44 o0 "com/example/escrow/escrow/LockRecord" "owner" "Ljava/lang/String;" .null := F38.same W45
  have F47 : Sta Z h44 "java/lang/String" "COMPACT_STRINGS" "Z" (.int x0) := F35.wr W45
  have F48 : Exa Z h44 o1 "java/lang/String" := F36.wr W45
  have F49 : Exa Z h44 o0 "com/example/escrow/escrow/LockRecord" := F37.wr W45
  have F50 : Fld Z h44 o0 "com/example/escrow/escrow/LockRecord" "claim" "Lcom/example/escrow/escrow/Claim;" .null := F39.other W45 (Or.inr (slot_ne (Or.inr (hw _ (List.mem_of_getElem? (i := 49) rfl))) (Or.inr (hw _ (List.mem_of_getElem? (i := 47) rfl))) (by decide) (t := (.object "com/example/escrow/escrow/Claim")) (t' := (.object "java/lang/String")) (by decide) (by decide)))
  have F51 : Fld Z h44 o0 "com/example/escrow/escrow/LockRecord" "name" "Ljava/lang/String;" (.ref o1) := F40.other W45 (Or.inr (slot_ne (Or.inr (hw _ (List.mem_of_getElem? (i := 43) rfl))) (Or.inr (hw _ (List.mem_of_getElem? (i := 47) rfl))) (by decide) (t := (.object "java/lang/String")) (t' := (.object "java/lang/String")) (by decide) (by decide)))
  have F52 : Fld Z h44 o0 "com/example/escrow/escrow/LockRecord" "token" "J" (.long (0 : Int64)) := F34.other W45 (Or.inr (slot_ne (Or.inr (hw _ (List.mem_of_getElem? (i := 45) rfl))) (Or.inr (hw _ (List.mem_of_getElem? (i := 47) rfl))) (by decide) (t := .long) (t' := (.object "java/lang/String")) (by decide) (by decide)))
  have sz53 : n0 ≤ h44.size := Nat.le_trans sz41 (Nat.le_of_eq W45.size.symm)
  have sy54 : h0.size ≤ h44.size := Nat.le_trans sy42 (Nat.le_of_eq W45.size.symm)
  have K55 := K43.wr W45 (Or.inl (by simp))
  show Wk _ p l e _ s m _ below meth c n0 _ h44 2 20 (mkF m 27 #[.val (.ref o0), .val (.ref o1), .val (.long (0 : Int64)), .second, .val .null, .val .null] [])
  refine Wk.st (g' := (mkF m 28 #[.val (.ref o0), .val (.ref o1), .val (.long (0 : Int64)), .second, .val .null, .val .null] [(.ref o0)])) (fun X t q => XS.aloadN X.here C.hx rfl (hb C.hby d5_27) rfl rfl q) ?_
  refine Wk.st (g' := (mkF m 30 #[.val (.ref o0), .val (.ref o1), .val (.long (0 : Int64)), .second, .val .null, .val .null] [.null, (.ref o0)])) (fun X t q => XS.aload X.here C.hx rfl (hb C.hby d5_28) rfl rfl q) ?_
  refine Wk.putF C (hw _ (List.mem_of_getElem? (i := 48) rfl)) Via.refl F50 F49 (Or.inr ⟨(hw _ (List.mem_of_getElem? (i := 49) rfl)), rfl, rfl⟩) (hw _ (List.mem_of_getElem? (i := 27) rfl)) (ty := (.object "com/example/escrow/escrow/Claim")) (by decide) (v' := .null) rfl rfl G_o0 d5_30 ?_
  intro h56 W57
  have F58 : Fld Z h56 o0 "com/example/escrow/escrow/LockRecord" "claim" "Lcom/example/escrow/escrow/Claim;" .null := F50.same W57
  have F59 : Sta Z h56 "java/lang/String" "COMPACT_STRINGS" "Z" (.int x0) := F47.wr W57
  have F60 : Exa Z h56 o1 "java/lang/String" := F48.wr W57
  have F61 : Exa Z h56 o0 "com/example/escrow/escrow/LockRecord" := F49.wr W57
  have F62 : Fld Z h56 o0 "com/example/escrow/escrow/LockRecord" "name" "Ljava/lang/String;" (.ref o1) := F51.other W57 (Or.inr (slot_ne (Or.inr (hw _ (List.mem_of_getElem? (i := 43) rfl))) (Or.inr (hw _ (List.mem_of_getElem? (i := 49) rfl))) (by decide) (t := (.object "java/lang/String")) (t' := (.object "com/example/escrow/escrow/Claim")) (by decide) (by decide)))
  have F63 : Fld Z h56 o0 "com/example/escrow/escrow/LockRecord" "token" "J" (.long (0 : Int64)) := F52.other W57 (Or.inr (slot_ne (Or.inr (hw _ (List.mem_of_getElem? (i := 45) rfl))) (Or.inr (hw _ (List.mem_of_getElem? (i := 49) rfl))) (by decide) (t := .long) (t' := (.object "com/example/escrow/escrow/Claim")) (by decide) (by decide)))
  have F64 : Fld Z h56 o0 "com/example/escrow/escrow/LockRecord" "owner" "Ljava/lang/String;" .null := F46.other W57 (Or.inr (slot_ne (Or.inr (hw _ (List.mem_of_getElem? (i := 47) rfl))) (Or.inr (hw _ (List.mem_of_getElem? (i := 49) rfl))) (by decide) (t := (.object "java/lang/String")) (t' := (.object "com/example/escrow/escrow/Claim")) (by decide) (by decide)))
  have sz65 : n0 ≤ h56.size := Nat.le_trans sz53 (Nat.le_of_eq W57.size.symm)
  have sy66 : h0.size ≤ h56.size := Nat.le_trans sy54 (Nat.le_of_eq W57.size.symm)
  have K67 := K55.wr W57 (Or.inl (by simp))
  show Wk _ p l e _ s m _ below meth c n0 _ h56 2 20 (mkF m 33 #[.val (.ref o0), .val (.ref o1), .val (.long (0 : Int64)), .second, .val .null, .val .null] [])
  exact Wk.retN0 C rfl d5_33 (by decide) (by decide) ⟨rfl, K67, F59, F62, F63, F64, F58⟩
theorem d4_0 : decode prog_25_method_2_code 0 = .ok (.new 16, 3) := by decide +kernel
theorem d4_3 : decode prog_25_method_2_code 3 = .ok (.dup, 1) := by decide +kernel
theorem d4_4 : decode prog_25_method_2_code 4 = .ok (.aload_n 0, 1) := by decide +kernel
theorem d4_5 : decode prog_25_method_2_code 5 = .ok (.lconst 0, 1) := by decide +kernel
theorem d4_6 : decode prog_25_method_2_code 6 = .ok (.aconst_null, 1) := by decide +kernel
theorem d4_7 : decode prog_25_method_2_code 7 = .ok (.aconst_null, 1) := by decide +kernel
theorem d4_8 : decode prog_25_method_2_code 8 = .ok (.invokespecial 31, 3) := by decide +kernel
theorem d4_11 : decode prog_25_method_2_code 11 = .ok (.areturn, 1) := by decide +kernel
set_option maxRecDepth 65536 in
set_option maxHeartbeats 40000000 in
theorem own_4_0 (l : Launch) (Z : State) (a0 : Array Value) (hw : ∀ d ∈ tables_1, d.before a0 Z = true) (n0 : Nat) (h0 : Heap) (hsz : n0 ≤ h0.size) (o0 : Addr) (x0 : Int32) (P0 : Sta Z h0 "java/lang/String" "COMPACT_STRINGS" "Z" (.int x0)) (P1 : Exa Z h0 o0 "java/lang/String") (G_o0 : n0 ≤ o0) (nz_x0 : ¬ x0 = (0 : Int32)) :
    Met true l Z n0 (⟨"com/example/escrow/escrow/LockRecord", "untaken", "(Ljava/lang/String;)Lcom/example/escrow/escrow/LockRecord;"⟩ : MethodName) prog_25_method_2_code 1 (some (.object "com/example/escrow/escrow/LockRecord")) ({ frames := 3, cells := 3, slots := 24, locals := 42 } : Room) #[(.ref o0)] h0 (fun v h => ∃ b2 : Addr, v = some (.ref b2) ∧ Keep h0 h [] ∧ h0.size ≤ b2 ∧ Exa Z h b2 "com/example/escrow/escrow/LockRecord" ∧ Sta Z h "java/lang/String" "COMPACT_STRINGS" "Z" (.int x0) ∧ Fld Z h b2 "com/example/escrow/escrow/LockRecord" "name" "Ljava/lang/String;" (.ref o0) ∧ Fld Z h b2 "com/example/escrow/escrow/LockRecord" "token" "J" (.long (0 : Int64)) ∧ Fld Z h b2 "com/example/escrow/escrow/LockRecord" "owner" "Ljava/lang/String;" .null ∧ Fld Z h b2 "com/example/escrow/escrow/LockRecord" "claim" "Lcom/example/escrow/escrow/Claim;" .null) := by
  refine Met.of (plainFor_of_name pn_3) #[.val (.ref o0)] (fun m => by first | (simp [entryFrame, mkF, argsToLocals, Value.category]; done) | rfl) ?_
  intro p e s m below meth c C
  refine Wk.newO C (hw _ (List.mem_of_getElem? (i := 26) rfl)) (hw _ (List.mem_of_getElem? (i := 27) rfl)) (hw _ (List.mem_of_getElem? (i := 24) rfl)) d4_0 (by decide) (by decide) ?_
  intro h1 b2 g3 E4 A5 D6
  have ne7 : o0 ≠ b2 := Nat.ne_of_lt (Nat.lt_of_lt_of_le P1.lt (Nat.le_of_eq g3.symm))
  have ge8 : n0 ≤ b2 := Nat.le_trans hsz (Nat.le_of_eq g3.symm)
  have gz9 : h0.size ≤ b2 := Nat.le_trans (Nat.le_refl h0.size) (Nat.le_of_eq g3.symm)
  have F10 : Sta Z h1 "java/lang/String" "COMPACT_STRINGS" "Z" (.int x0) := P0.ext E4
  have F11 : Exa Z h1 o0 "java/lang/String" := P1.ext E4
  have sz12 : n0 ≤ h1.size := Nat.le_trans hsz E4.1
  have sy13 : h0.size ≤ h1.size := Nat.le_trans (Nat.le_refl h0.size) E4.1
  have K14 := (Keep.refl h0 []).ext E4
  have F15 : Fld Z h1 b2 "com/example/escrow/escrow/LockRecord" "name" "Ljava/lang/String;" .null := D6 (Or.inr (hw _ (List.mem_of_getElem? (i := 43) rfl))) (ty := (.object "java/lang/String")) (by decide)
  have F16 : Fld Z h1 b2 "com/example/escrow/escrow/LockRecord" "token" "J" (.long (0 : Int64)) := D6 (Or.inr (hw _ (List.mem_of_getElem? (i := 45) rfl))) (ty := .long) (by decide)
  have F17 : Fld Z h1 b2 "com/example/escrow/escrow/LockRecord" "owner" "Ljava/lang/String;" .null := D6 (Or.inr (hw _ (List.mem_of_getElem? (i := 47) rfl))) (ty := (.object "java/lang/String")) (by decide)
  have F18 : Fld Z h1 b2 "com/example/escrow/escrow/LockRecord" "claim" "Lcom/example/escrow/escrow/Claim;" .null := D6 (Or.inr (hw _ (List.mem_of_getElem? (i := 49) rfl))) (ty := (.object "com/example/escrow/escrow/Claim")) (by decide)
  show Wk _ p l e _ s m _ below meth c n0 _ h1 1 4 (mkF m 3 #[.val (.ref o0)] [(.ref b2)])
  refine Wk.st (g' := (mkF m 4 #[.val (.ref o0)] [(.ref b2), (.ref b2)])) (fun X t q => XS.dup X.here C.hx rfl (hb C.hby d4_3) rfl rfl q) ?_
  refine Wk.st (g' := (mkF m 5 #[.val (.ref o0)] [(.ref o0), (.ref b2), (.ref b2)])) (fun X t q => XS.aloadN X.here C.hx rfl (hb C.hby d4_4) rfl rfl q) ?_
  refine Wk.st (g' := (mkF m 6 #[.val (.ref o0)] [(.long (0 : Int64)), (.ref o0), (.ref b2), (.ref b2)])) (fun X t q => XS.lconst X.here C.hx rfl (hb C.hby d4_5) q) ?_
  refine Wk.st (g' := (mkF m 7 #[.val (.ref o0)] [.null, (.long (0 : Int64)), (.ref o0), (.ref b2), (.ref b2)])) (fun X t q => XS.aconstNull X.here C.hx rfl (hb C.hby d4_6) q) ?_
  refine Wk.st (g' := (mkF m 8 #[.val (.ref o0)] [.null, .null, (.long (0 : Int64)), (.ref o0), (.ref b2), (.ref b2)])) (fun X t q => XS.aconstNull X.here C.hx rfl (hb C.hby d4_7) q) ?_
  refine Wk.callI C (z := (⟨"com/example/escrow/escrow/LockRecord", "<init>", "(Ljava/lang/String;JLjava/lang/String;Lcom/example/escrow/escrow/Claim;)V"⟩ : MethodName)) rfl (hw _ (List.mem_of_getElem? (i := 28) rfl)) (hw _ (List.mem_of_getElem? (i := 29) rfl)) (hw _ (List.mem_of_getElem? (i := 24) rfl)) (hw _ (List.mem_of_getElem? (i := 30) rfl)) (by decide) (own_5_0 l Z a0 hw n0 h1 sz12 b2 o0 x0 F10 F11 A5 F15 F16 F17 F18 (Ne.symm ne7) ge8 G_o0 nz_x0) (w := 1) (by decide) (by decide) pd_3 rfl (rest := [(.ref b2)]) rfl rfl (Nat.le_of_eq rfl) (by decide) (by decide) d4_8 ?_
  rintro _ h20 ⟨rfl, K21, F22, F23, F24, F25, F26⟩
  show Wk _ p l e _ s m _ below meth c n0 _ h20 3 24 (mkF m 11 #[.val (.ref o0)] [(.ref b2)])
  have F27 : Exa Z h20 o0 "java/lang/String" := F11.keep K21
  have F28 : Exa Z h20 b2 "com/example/escrow/escrow/LockRecord" := A5.keep K21
  have sz29 : n0 ≤ h20.size := Nat.le_trans sz12 K21.1
  have K30 := K14.trans K21 (nvS (Or.inr gz9) nv0)
  have sy31 : h0.size ≤ h20.size := Nat.le_trans sy13 K21.1
  exact Wk.retV C (t := (.object "com/example/escrow/escrow/LockRecord")) rfl rfl (Or.inr (Or.inr (Or.inr (Or.inr ⟨rfl, rfl, rfl⟩)))) d4_11 (by decide) (by decide) ⟨b2, rfl, K30, gz9, F28, F22, F23, F24, F25, F26⟩
theorem d8_0 : decode prog_25_method_16_code 0 = .ok (.aload_n 0, 1) := by decide +kernel
theorem d8_1 : decode prog_25_method_16_code 1 = .ok (.getfield 15, 3) := by decide +kernel
theorem d8_4 : decode prog_25_method_16_code 4 = .ok (.areturn, 1) := by decide +kernel
set_option maxRecDepth 65536 in
set_option maxHeartbeats 40000000 in
theorem own_8_4 (l : Launch) (Z : State) (a0 : Array Value) (hw : ∀ d ∈ tables_1, d.before a0 Z = true) (n0 : Nat) (h0 : Heap) (hsz : n0 ≤ h0.size) (o0 : Addr) (o1 : Addr) (x0 : Int32) (P0 : Exa Z h0 o1 "java/lang/String") (P1 : Exa Z h0 o0 "com/example/escrow/escrow/LockRecord") (P2 : Sta Z h0 "java/lang/String" "COMPACT_STRINGS" "Z" (.int x0)) (P3 : Fld Z h0 o0 "com/example/escrow/escrow/LockRecord" "name" "Ljava/lang/String;" (.ref o1)) (P4 : Fld Z h0 o0 "com/example/escrow/escrow/LockRecord" "token" "J" (.long (0 : Int64))) (P5 : Fld Z h0 o0 "com/example/escrow/escrow/LockRecord" "owner" "Ljava/lang/String;" .null) (P6 : Fld Z h0 o0 "com/example/escrow/escrow/LockRecord" "claim" "Lcom/example/escrow/escrow/Claim;" .null) (N_o0_o1 : o0 ≠ o1) (G_o0 : n0 ≤ o0) (G_o1 : n0 ≤ o1) (nz_x0 : ¬ x0 = (0 : Int32)) :
    Met true l Z n0 (⟨"com/example/escrow/escrow/LockRecord", "name", "()Ljava/lang/String;"⟩ : MethodName) prog_25_method_16_code 1 (some (.object "java/lang/String")) ({ frames := 0, cells := 0, slots := 0, locals := 0 } : Room) #[(.ref o0)] h0 (fun v h => v = some (.ref o1) ∧ h0 = h) := by
  refine Met.of (plainFor_of_name pn_3) #[.val (.ref o0)] (fun m => by first | (simp [entryFrame, mkF, argsToLocals, Value.category]; done) | rfl) ?_
  intro p e s m below meth c C
  refine Wk.st (g' := (mkF m 1 #[.val (.ref o0)] [(.ref o0)])) (fun X t q => XS.aloadN X.here C.hx rfl (hb C.hby d8_0) rfl rfl q) ?_
  refine Wk.getF C (hw _ (List.mem_of_getElem? (i := 42) rfl)) Via.refl P3 d8_1 ?_
  show Wk _ p l e _ s m _ below meth c n0 _ h0 0 0 (mkF m 4 #[.val (.ref o0)] [(.ref o1)])
  exact Wk.retV C (t := (.object "java/lang/String")) rfl rfl (Or.inr (Or.inr (Or.inr (Or.inr ⟨rfl, rfl, rfl⟩)))) d8_4 (by decide) (by decide) ⟨rfl, rfl⟩
theorem d9_0 : decode jdk_42_method_66_code 0 = .ok (.aload_n 0, 1) := by decide +kernel
theorem d9_1 : decode jdk_42_method_66_code 1 = .ok (.aload_n 1, 1) := by decide +kernel
theorem d9_2 : decode jdk_42_method_66_code 2 = .ok (.if_acmp .ne 5, 3) := by decide +kernel
theorem d9_5 : decode jdk_42_method_66_code 5 = .ok (.iconst 1, 1) := by decide +kernel
theorem d9_6 : decode jdk_42_method_66_code 6 = .ok (.ireturn, 1) := by decide +kernel
theorem d9_7 : decode jdk_42_method_66_code 7 = .ok (.aload_n 1, 1) := by decide +kernel
theorem d9_8 : decode jdk_42_method_66_code 8 = .ok (.instanceof 10, 3) := by decide +kernel
theorem d9_11 : decode jdk_42_method_66_code 11 = .ok (.ifCond .eq 43, 3) := by decide +kernel
theorem d9_14 : decode jdk_42_method_66_code 14 = .ok (.aload_n 1, 1) := by decide +kernel
theorem d9_15 : decode jdk_42_method_66_code 15 = .ok (.checkcast 10, 3) := by decide +kernel
theorem d9_18 : decode jdk_42_method_66_code 18 = .ok (.astore_n 2, 1) := by decide +kernel
theorem d9_19 : decode jdk_42_method_66_code 19 = .ok (.getstatic 38, 3) := by decide +kernel
theorem d9_22 : decode jdk_42_method_66_code 22 = .ok (.ifCond .eq 14, 3) := by decide +kernel
theorem d9_25 : decode jdk_42_method_66_code 25 = .ok (.aload_n 0, 1) := by decide +kernel
theorem d9_26 : decode jdk_42_method_66_code 26 = .ok (.getfield 15, 3) := by decide +kernel
theorem d9_29 : decode jdk_42_method_66_code 29 = .ok (.aload_n 2, 1) := by decide +kernel
theorem d9_30 : decode jdk_42_method_66_code 30 = .ok (.getfield 15, 3) := by decide +kernel
theorem d9_33 : decode jdk_42_method_66_code 33 = .ok (.if_icmp .ne 21, 3) := by decide +kernel
theorem d9_36 : decode jdk_42_method_66_code 36 = .ok (.aload_n 0, 1) := by decide +kernel
theorem d9_37 : decode jdk_42_method_66_code 37 = .ok (.getfield 9, 3) := by decide +kernel
theorem d9_40 : decode jdk_42_method_66_code 40 = .ok (.aload_n 2, 1) := by decide +kernel
theorem d9_41 : decode jdk_42_method_66_code 41 = .ok (.getfield 9, 3) := by decide +kernel
theorem d9_44 : decode jdk_42_method_66_code 44 = .ok (.invokestatic 541, 3) := by decide +kernel
theorem d9_47 : decode jdk_42_method_66_code 47 = .ok (.ifCond .eq 7, 3) := by decide +kernel
theorem d9_50 : decode jdk_42_method_66_code 50 = .ok (.iconst 1, 1) := by decide +kernel
theorem d9_51 : decode jdk_42_method_66_code 51 = .ok (.goto 4, 3) := by decide +kernel
theorem d9_54 : decode jdk_42_method_66_code 54 = .ok (.iconst 0, 1) := by decide +kernel
theorem d9_55 : decode jdk_42_method_66_code 55 = .ok (.ireturn, 1) := by decide +kernel
set_option maxRecDepth 65536 in
set_option maxHeartbeats 40000000 in
theorem own_9_5 (l : Launch) (Z : State) (a0 : Array Value) (hw : ∀ d ∈ tables_1, d.before a0 Z = true) (n0 : Nat) (h0 : Heap) (hsz : n0 ≤ h0.size) (o0 : Addr) (x0 : Int32) (P0 : Exa Z h0 o0 "java/lang/String") (P1 : Sta Z h0 "java/lang/String" "COMPACT_STRINGS" "Z" (.int x0)) (G_o0 : n0 ≤ o0) (nz_x0 : ¬ x0 = (0 : Int32)) :
    Met true l Z n0 (⟨"java/lang/String", "equals", "(Ljava/lang/Object;)Z"⟩ : MethodName) jdk_42_method_66_code 3 (some .boolean) ({ frames := 0, cells := 0, slots := 0, locals := 0 } : Room) #[(.ref o0), (.ref o0)] h0 (fun v h => v = some (.int (1 : Int32)) ∧ h0 = h) := by
  refine Met.of (plainFor_of_name pn_0) #[.val (.ref o0), .val (.ref o0), .unset] (fun m => by first | (simp [entryFrame, mkF, argsToLocals, Value.category]; done) | rfl) ?_
  intro p e s m below meth c C
  refine Wk.st (g' := (mkF m 1 #[.val (.ref o0), .val (.ref o0), .unset] [(.ref o0)])) (fun X t q => XS.aloadN X.here C.hx rfl (hb C.hby d9_0) rfl rfl q) ?_
  refine Wk.st (g' := (mkF m 2 #[.val (.ref o0), .val (.ref o0), .unset] [(.ref o0), (.ref o0)])) (fun X t q => XS.aloadN X.here C.hx rfl (hb C.hby d9_1) rfl rfl q) ?_
  refine Wk.st (g' := (mkF m 5 #[.val (.ref o0), .val (.ref o0), .unset] [])) (fun X t q => Jvm.RoadKit.acmp (g := (mkF m 2 #[.val (.ref o0), .val (.ref o0), .unset] [(.ref o0), (.ref o0)])) X C.hx rfl rfl rfl (pc0 := 2) (pc' := 5) (same := true) rfl (hb C.hby d9_2) rfl (decide_eq_true (congrArg Value.ref rfl)) (by decide) (by decide) q) ?_
  refine Wk.st (g' := (mkF m 6 #[.val (.ref o0), .val (.ref o0), .unset] [(.int (1 : Int32))])) (fun X t q => XS.iconst X.here C.hx rfl (hb C.hby d9_5) q) ?_
  exact Wk.retV C (t := .boolean) rfl rfl (Or.inl ⟨rfl, by simp, _, rfl⟩) d9_6 (by decide) (by decide) ⟨rfl, rfl⟩
theorem d10_0 : decode prog_25_method_17_code 0 = .ok (.aload_n 0, 1) := by decide +kernel
theorem d10_1 : decode prog_25_method_17_code 1 = .ok (.getfield 20, 3) := by decide +kernel
theorem d10_4 : decode prog_25_method_17_code 4 = .ok (.lreturn, 1) := by decide +kernel
set_option maxRecDepth 65536 in
set_option maxHeartbeats 40000000 in
theorem own_10_6 (l : Launch) (Z : State) (a0 : Array Value) (hw : ∀ d ∈ tables_1, d.before a0 Z = true) (n0 : Nat) (h0 : Heap) (hsz : n0 ≤ h0.size) (o0 : Addr) (o1 : Addr) (x0 : Int32) (P0 : Exa Z h0 o1 "java/lang/String") (P1 : Exa Z h0 o0 "com/example/escrow/escrow/LockRecord") (P2 : Sta Z h0 "java/lang/String" "COMPACT_STRINGS" "Z" (.int x0)) (P3 : Fld Z h0 o0 "com/example/escrow/escrow/LockRecord" "name" "Ljava/lang/String;" (.ref o1)) (P4 : Fld Z h0 o0 "com/example/escrow/escrow/LockRecord" "token" "J" (.long (0 : Int64))) (P5 : Fld Z h0 o0 "com/example/escrow/escrow/LockRecord" "owner" "Ljava/lang/String;" .null) (P6 : Fld Z h0 o0 "com/example/escrow/escrow/LockRecord" "claim" "Lcom/example/escrow/escrow/Claim;" .null) (N_o0_o1 : o0 ≠ o1) (G_o0 : n0 ≤ o0) (G_o1 : n0 ≤ o1) (nz_x0 : ¬ x0 = (0 : Int32)) :
    Met true l Z n0 (⟨"com/example/escrow/escrow/LockRecord", "token", "()J"⟩ : MethodName) prog_25_method_17_code 1 (some .long) ({ frames := 0, cells := 0, slots := 0, locals := 0 } : Room) #[(.ref o0)] h0 (fun v h => v = some (.long (0 : Int64)) ∧ h0 = h) := by
  refine Met.of (plainFor_of_name pn_3) #[.val (.ref o0)] (fun m => by first | (simp [entryFrame, mkF, argsToLocals, Value.category]; done) | rfl) ?_
  intro p e s m below meth c C
  refine Wk.st (g' := (mkF m 1 #[.val (.ref o0)] [(.ref o0)])) (fun X t q => XS.aloadN X.here C.hx rfl (hb C.hby d10_0) rfl rfl q) ?_
  refine Wk.getF C (hw _ (List.mem_of_getElem? (i := 44) rfl)) Via.refl P4 d10_1 ?_
  show Wk _ p l e _ s m _ below meth c n0 _ h0 0 0 (mkF m 4 #[.val (.ref o0)] [(.long (0 : Int64))])
  exact Wk.retV C (t := .long) rfl rfl (Or.inr (Or.inl ⟨rfl, rfl, _, rfl⟩)) d10_4 (by decide) (by decide) ⟨rfl, rfl⟩
theorem d11_0 : decode prog_25_method_18_code 0 = .ok (.aload_n 0, 1) := by decide +kernel
theorem d11_1 : decode prog_25_method_18_code 1 = .ok (.getfield 24, 3) := by decide +kernel
theorem d11_4 : decode prog_25_method_18_code 4 = .ok (.areturn, 1) := by decide +kernel
set_option maxRecDepth 65536 in
set_option maxHeartbeats 40000000 in
theorem own_11_7 (l : Launch) (Z : State) (a0 : Array Value) (hw : ∀ d ∈ tables_1, d.before a0 Z = true) (n0 : Nat) (h0 : Heap) (hsz : n0 ≤ h0.size) (o0 : Addr) (o1 : Addr) (x0 : Int32) (P0 : Exa Z h0 o1 "java/lang/String") (P1 : Exa Z h0 o0 "com/example/escrow/escrow/LockRecord") (P2 : Sta Z h0 "java/lang/String" "COMPACT_STRINGS" "Z" (.int x0)) (P3 : Fld Z h0 o0 "com/example/escrow/escrow/LockRecord" "name" "Ljava/lang/String;" (.ref o1)) (P4 : Fld Z h0 o0 "com/example/escrow/escrow/LockRecord" "token" "J" (.long (0 : Int64))) (P5 : Fld Z h0 o0 "com/example/escrow/escrow/LockRecord" "owner" "Ljava/lang/String;" .null) (P6 : Fld Z h0 o0 "com/example/escrow/escrow/LockRecord" "claim" "Lcom/example/escrow/escrow/Claim;" .null) (N_o0_o1 : o0 ≠ o1) (G_o0 : n0 ≤ o0) (G_o1 : n0 ≤ o1) (nz_x0 : ¬ x0 = (0 : Int32)) :
    Met true l Z n0 (⟨"com/example/escrow/escrow/LockRecord", "owner", "()Ljava/lang/String;"⟩ : MethodName) prog_25_method_18_code 1 (some (.object "java/lang/String")) ({ frames := 0, cells := 0, slots := 0, locals := 0 } : Room) #[(.ref o0)] h0 (fun v h => v = some .null ∧ h0 = h) := by
  refine Met.of (plainFor_of_name pn_3) #[.val (.ref o0)] (fun m => by first | (simp [entryFrame, mkF, argsToLocals, Value.category]; done) | rfl) ?_
  intro p e s m below meth c C
  refine Wk.st (g' := (mkF m 1 #[.val (.ref o0)] [(.ref o0)])) (fun X t q => XS.aloadN X.here C.hx rfl (hb C.hby d11_0) rfl rfl q) ?_
  refine Wk.getF C (hw _ (List.mem_of_getElem? (i := 46) rfl)) Via.refl P5 d11_1 ?_
  show Wk _ p l e _ s m _ below meth c n0 _ h0 0 0 (mkF m 4 #[.val (.ref o0)] [.null])
  exact Wk.retV C (t := (.object "java/lang/String")) rfl rfl (Or.inr (Or.inr (Or.inr (Or.inr ⟨rfl, rfl, rfl⟩)))) d11_4 (by decide) (by decide) ⟨rfl, rfl⟩
theorem d12_0 : decode prog_25_method_19_code 0 = .ok (.aload_n 0, 1) := by decide +kernel
theorem d12_1 : decode prog_25_method_19_code 1 = .ok (.getfield 27, 3) := by decide +kernel
theorem d12_4 : decode prog_25_method_19_code 4 = .ok (.areturn, 1) := by decide +kernel
set_option maxRecDepth 65536 in
set_option maxHeartbeats 40000000 in
theorem own_12_8 (l : Launch) (Z : State) (a0 : Array Value) (hw : ∀ d ∈ tables_1, d.before a0 Z = true) (n0 : Nat) (h0 : Heap) (hsz : n0 ≤ h0.size) (o0 : Addr) (o1 : Addr) (x0 : Int32) (P0 : Exa Z h0 o1 "java/lang/String") (P1 : Exa Z h0 o0 "com/example/escrow/escrow/LockRecord") (P2 : Sta Z h0 "java/lang/String" "COMPACT_STRINGS" "Z" (.int x0)) (P3 : Fld Z h0 o0 "com/example/escrow/escrow/LockRecord" "name" "Ljava/lang/String;" (.ref o1)) (P4 : Fld Z h0 o0 "com/example/escrow/escrow/LockRecord" "token" "J" (.long (0 : Int64))) (P5 : Fld Z h0 o0 "com/example/escrow/escrow/LockRecord" "owner" "Ljava/lang/String;" .null) (P6 : Fld Z h0 o0 "com/example/escrow/escrow/LockRecord" "claim" "Lcom/example/escrow/escrow/Claim;" .null) (N_o0_o1 : o0 ≠ o1) (G_o0 : n0 ≤ o0) (G_o1 : n0 ≤ o1) (nz_x0 : ¬ x0 = (0 : Int32)) :
    Met true l Z n0 (⟨"com/example/escrow/escrow/LockRecord", "claim", "()Lcom/example/escrow/escrow/Claim;"⟩ : MethodName) prog_25_method_19_code 1 (some (.object "com/example/escrow/escrow/Claim")) ({ frames := 0, cells := 0, slots := 0, locals := 0 } : Room) #[(.ref o0)] h0 (fun v h => v = some .null ∧ h0 = h) := by
  refine Met.of (plainFor_of_name pn_3) #[.val (.ref o0)] (fun m => by first | (simp [entryFrame, mkF, argsToLocals, Value.category]; done) | rfl) ?_
  intro p e s m below meth c C
  refine Wk.st (g' := (mkF m 1 #[.val (.ref o0)] [(.ref o0)])) (fun X t q => XS.aloadN X.here C.hx rfl (hb C.hby d12_0) rfl rfl q) ?_
  refine Wk.getF C (hw _ (List.mem_of_getElem? (i := 48) rfl)) Via.refl P6 d12_1 ?_
  show Wk _ p l e _ s m _ below meth c n0 _ h0 0 0 (mkF m 4 #[.val (.ref o0)] [.null])
  exact Wk.retV C (t := (.object "com/example/escrow/escrow/Claim")) rfl rfl (Or.inr (Or.inr (Or.inr (Or.inr ⟨rfl, rfl, rfl⟩)))) d12_4 (by decide) (by decide) ⟨rfl, rfl⟩
theorem d17_0 : decode jdk_43_method_3_code 0 = .ok (.iload_n 0, 1) := by decide +kernel
theorem d17_1 : decode jdk_43_method_3_code 1 = .ok (.sipush 255, 3) := by decide +kernel
theorem d17_4 : decode jdk_43_method_3_code 4 = .ok (.if_icmp .gt 7, 3) := by decide +kernel
theorem d17_7 : decode jdk_43_method_3_code 7 = .ok (.iconst 1, 1) := by decide +kernel
theorem d17_8 : decode jdk_43_method_3_code 8 = .ok (.goto 4, 3) := by decide +kernel
theorem d17_11 : decode jdk_43_method_3_code 11 = .ok (.iconst 0, 1) := by decide +kernel
theorem d17_12 : decode jdk_43_method_3_code 12 = .ok (.ireturn, 1) := by decide +kernel
set_option maxRecDepth 65536 in
set_option maxHeartbeats 40000000 in
theorem own_17_9 (l : Launch) (Z : State) (a0 : Array Value) (hw : ∀ d ∈ tables_1, d.before a0 Z = true) (n0 : Nat) (h0 : Heap) (hsz : n0 ≤ h0.size) (x0 : Int32) (x1 : Int32) (P0 : Sta Z h0 "java/lang/String" "COMPACT_STRINGS" "Z" (.int x1)) (lat_x0 : ¬ (255 : Int32) < x0) (nz_x1 : ¬ x1 = (0 : Int32)) :
    Met true l Z n0 (⟨"java/lang/StringLatin1", "canEncode", "(C)Z"⟩ : MethodName) jdk_43_method_3_code 1 (some .boolean) ({ frames := 0, cells := 0, slots := 0, locals := 0 } : Room) #[(.int x0)] h0 (fun v h => v = some (.int (1 : Int32)) ∧ h0 = h) := by
  refine Met.of (plainFor_of_name pn_4) #[.val (.int x0)] (fun m => by first | (simp [entryFrame, mkF, argsToLocals, Value.category]; done) | rfl) ?_
  intro p e s m below meth c C
  refine Wk.st (g' := (mkF m 1 #[.val (.int x0)] [(.int x0)])) (fun X t q => XS.iloadN X.here C.hx rfl (hb C.hby d17_0) rfl q) ?_
  refine Wk.st (g' := (mkF m 4 #[.val (.int x0)] [(.int (255 : Int32)), (.int x0)])) (fun X t q => XS.sipush X.here C.hx rfl (hb C.hby d17_1) q) ?_
  refine Wk.st (g' := (mkF m 7 #[.val (.int x0)] [])) (fun X t q => XS.icmpNo X.here C.hx rfl (hb C.hby d17_4) rfl (XT.ii_gt_f lat_x0) q) ?_
  refine Wk.st (g' := (mkF m 8 #[.val (.int x0)] [(.int (1 : Int32))])) (fun X t q => XS.iconst X.here C.hx rfl (hb C.hby d17_7) q) ?_
  refine Wk.st (g' := (mkF m 12 #[.val (.int x0)] [(.int (1 : Int32))])) (fun X t q => XS.goto X.here C.hx rfl (pc0 := 8) (pc' := 12) rfl (hb C.hby d17_8) (by decide) (by decide) q) ?_
  exact Wk.retV C (t := .boolean) rfl rfl (Or.inl ⟨rfl, by simp, _, rfl⟩) d17_12 (by decide) (by decide) ⟨rfl, rfl⟩
theorem d18_0 : decode jdk_43_method_46_code 0 = .ok (.iconst 1, 1) := by decide +kernel
theorem d18_1 : decode jdk_43_method_46_code 1 = .ok (.newarray .byte, 2) := by decide +kernel
theorem d18_3 : decode jdk_43_method_46_code 3 = .ok (.dup, 1) := by decide +kernel
theorem d18_4 : decode jdk_43_method_46_code 4 = .ok (.iconst 0, 1) := by decide +kernel
theorem d18_5 : decode jdk_43_method_46_code 5 = .ok (.iload_n 0, 1) := by decide +kernel
theorem d18_6 : decode jdk_43_method_46_code 6 = .ok (.i2b, 1) := by decide +kernel
theorem d18_7 : decode jdk_43_method_46_code 7 = .ok (.bastore, 1) := by decide +kernel
theorem d18_8 : decode jdk_43_method_46_code 8 = .ok (.areturn, 1) := by decide +kernel
set_option maxRecDepth 65536 in
set_option maxHeartbeats 40000000 in
theorem own_18_10 (l : Launch) (Z : State) (a0 : Array Value) (hw : ∀ d ∈ tables_1, d.before a0 Z = true) (n0 : Nat) (h0 : Heap) (hsz : n0 ≤ h0.size) (x0 : Int32) (x1 : Int32) (P0 : Sta Z h0 "java/lang/String" "COMPACT_STRINGS" "Z" (.int x1)) (lat_x0 : ¬ (255 : Int32) < x0) (nz_x1 : ¬ x1 = (0 : Int32)) :
    Met true l Z n0 (⟨"java/lang/StringLatin1", "toBytes", "(C)[B"⟩ : MethodName) jdk_43_method_46_code 1 (some (.array .byte)) ({ frames := 0, cells := 1, slots := 1, locals := 0 } : Room) #[(.int x0)] h0 (fun v h => ∃ b2 : Addr, v = some (.ref b2) ∧ Keep h0 h [] ∧ h0.size ≤ b2 ∧ Sta Z h "java/lang/String" "COMPACT_STRINGS" "Z" (.int x1) ∧ Exa Z h b2 "[B" ∧ Fa Z h b2 .byte 1 (up (fun _ => (.int (0 : Int32))) 0 (.int (nar .byte (x0.toInt8.toInt32))))) := by
  refine Met.of (plainFor_of_name pn_4) #[.val (.int x0)] (fun m => by first | (simp [entryFrame, mkF, argsToLocals, Value.category]; done) | rfl) ?_
  intro p e s m below meth c C
  refine Wk.st (g' := (mkF m 1 #[.val (.int x0)] [(.int (1 : Int32))])) (fun X t q => XS.iconst X.here C.hx rfl (hb C.hby d18_0) q) ?_
  refine Wk.fNewP C (hw _ (List.mem_of_getElem? (i := 15) rfl)) (ty := .byte) (dv := (.int (0 : Int32))) (N := 1) (ad := "[B") rfl rfl (by decide) (by decide) (by decide) (cap := 1) (by decide) (by decide) d18_1 (by decide) (by decide) ?_
  intro h1 b2 g3 E4 A5 F6
  have ge7 : n0 ≤ b2 := Nat.le_trans hsz (Nat.le_of_eq g3.symm)
  have gz8 : h0.size ≤ b2 := Nat.le_trans (Nat.le_refl h0.size) (Nat.le_of_eq g3.symm)
  have F9 : Sta Z h1 "java/lang/String" "COMPACT_STRINGS" "Z" (.int x1) := P0.ext E4
  have sz10 : n0 ≤ h1.size := Nat.le_trans hsz E4.1
  have sy11 : h0.size ≤ h1.size := Nat.le_trans (Nat.le_refl h0.size) E4.1
  have K12 := (Keep.refl h0 []).ext E4
  show Wk _ p l e _ s m _ below meth c n0 _ h1 1 1 (mkF m 3 #[.val (.int x0)] [(.ref b2)])
  refine Wk.st (g' := (mkF m 4 #[.val (.int x0)] [(.ref b2), (.ref b2)])) (fun X t q => XS.dup X.here C.hx rfl (hb C.hby d18_3) rfl rfl q) ?_
  refine Wk.st (g' := (mkF m 5 #[.val (.int x0)] [(.int (0 : Int32)), (.ref b2), (.ref b2)])) (fun X t q => XS.iconst X.here C.hx rfl (hb C.hby d18_4) q) ?_
  refine Wk.st (g' := (mkF m 6 #[.val (.int x0)] [(.int x0), (.int (0 : Int32)), (.ref b2), (.ref b2)])) (fun X t q => XS.iloadN X.here C.hx rfl (hb C.hby d18_5) rfl q) ?_
  refine Wk.st (g' := (mkF m 7 #[.val (.int x0)] [(.int (x0.toInt8.toInt32)), (.int (0 : Int32)), (.ref b2), (.ref b2)])) (fun X t q => XS.i2b X.here C.hx rfl (hb C.hby d18_6) rfl q) ?_
  refine Wk.fStB C F6 (x' := (nar .byte (x0.toInt8.toInt32))) rfl (i := 0) (by decide) (by decide) (by decide) ge7 d18_7 ?_
  intro h13 W14 F15
  have F16 : Sta Z h13 "java/lang/String" "COMPACT_STRINGS" "Z" (.int x1) := F9.wr W14
  have F17 : Exa Z h13 b2 "[B" := A5.wr W14
  have sz18 : n0 ≤ h13.size := Nat.le_trans sz10 (Nat.le_of_eq W14.size.symm)
  have sy19 : h0.size ≤ h13.size := Nat.le_trans sy11 (Nat.le_of_eq W14.size.symm)
  have K20 := K12.wr W14 (Or.inr gz8)
  show Wk _ p l e _ s m _ below meth c n0 _ h13 1 1 (mkF m 8 #[.val (.int x0)] [(.ref b2)])
  exact Wk.retV C (t := (.array .byte)) rfl rfl (Or.inr (Or.inr (Or.inr (Or.inr ⟨rfl, rfl, rfl⟩)))) d18_8 (by decide) (by decide) ⟨b2, rfl, K20, gz8, F16, F17, F15⟩
theorem d19_0 : decode jdk_42_method_151_code 0 = .ok (.aload_n 0, 1) := by decide +kernel
theorem d19_1 : decode jdk_42_method_151_code 1 = .ok (.invokespecial 1, 3) := by decide +kernel
theorem d19_4 : decode jdk_42_method_151_code 4 = .ok (.aload_n 0, 1) := by decide +kernel
theorem d19_5 : decode jdk_42_method_151_code 5 = .ok (.aload_n 1, 1) := by decide +kernel
theorem d19_6 : decode jdk_42_method_151_code 6 = .ok (.putfield 9, 3) := by decide +kernel
theorem d19_9 : decode jdk_42_method_151_code 9 = .ok (.aload_n 0, 1) := by decide +kernel
theorem d19_10 : decode jdk_42_method_151_code 10 = .ok (.iload_n 2, 1) := by decide +kernel
theorem d19_11 : decode jdk_42_method_151_code 11 = .ok (.putfield 15, 3) := by decide +kernel
theorem d19_14 : decode jdk_42_method_151_code 14 = .ok (.return_, 1) := by decide +kernel
set_option maxRecDepth 65536 in
set_option maxHeartbeats 40000000 in
theorem own_19_11 (l : Launch) (Z : State) (a0 : Array Value) (hw : ∀ d ∈ tables_1, d.before a0 Z = true) (n0 : Nat) (h0 : Heap) (hsz : n0 ≤ h0.size) (o0 : Addr) (o1 : Addr) (x0 : Int32) (x1 : Int32) (P0 : Exa Z h0 o0 "java/lang/String") (P1 : Fld Z h0 o0 "java/lang/String" "value" "[B" .null) (P2 : Fld Z h0 o0 "java/lang/String" "coder" "B" (.int (0 : Int32))) (P3 : Sta Z h0 "java/lang/String" "COMPACT_STRINGS" "Z" (.int x0)) (P4 : Exa Z h0 o1 "[B") (P5 : Fa Z h0 o1 .byte 1 (up (fun _ => (.int (0 : Int32))) 0 (.int x1))) (N_o0_o1 : o0 ≠ o1) (G_o0 : n0 ≤ o0) (G_o1 : n0 ≤ o1) (nz_x0 : ¬ x0 = (0 : Int32)) :
    Met true l Z n0 (⟨"java/lang/String", "<init>", "([BB)V"⟩ : MethodName) jdk_42_method_151_code 3 none ({ frames := 1, cells := 0, slots := 0, locals := 12 } : Room) #[(.ref o0), (.ref o1), (.int (0 : Int32))] h0 (fun v h => v = none ∧ Keep h0 h [o0] ∧ Sta Z h "java/lang/String" "COMPACT_STRINGS" "Z" (.int x0) ∧ Fld Z h o0 "java/lang/String" "value" "[B" (.ref o1) ∧ Fld Z h o0 "java/lang/String" "coder" "B" (.int (0 : Int32))) := by
  refine Met.of (plainFor_of_name pn_0) #[.val (.ref o0), .val (.ref o1), .val (.int (0 : Int32))] (fun m => by first | (simp [entryFrame, mkF, argsToLocals, Value.category]; done) | rfl) ?_
  intro p e s m below meth c C
  refine Wk.st (g' := (mkF m 1 #[.val (.ref o0), .val (.ref o1), .val (.int (0 : Int32))] [(.ref o0)])) (fun X t q => XS.aloadN X.here C.hx rfl (hb C.hby d19_0) rfl rfl q) ?_
  refine Wk.initO C (hw _ (List.mem_of_getElem? (i := 11) rfl)) (hw _ (List.mem_of_getElem? (i := 12) rfl)) (hw _ (List.mem_of_getElem? (i := 13) rfl)) (w := 0) rfl d19_1 (by decide) (Nat.le_of_eq rfl) (by decide) ?_
  show Wk _ p l e _ s m _ below meth c n0 _ h0 0 0 (mkF m 4 #[.val (.ref o0), .val (.ref o1), .val (.int (0 : Int32))] [])
  refine Wk.st (g' := (mkF m 5 #[.val (.ref o0), .val (.ref o1), .val (.int (0 : Int32))] [(.ref o0)])) (fun X t q => XS.aloadN X.here C.hx rfl (hb C.hby d19_4) rfl rfl q) ?_
  refine Wk.st (g' := (mkF m 6 #[.val (.ref o0), .val (.ref o1), .val (.int (0 : Int32))] [(.ref o1), (.ref o0)])) (fun X t q => XS.aloadN X.here C.hx rfl (hb C.hby d19_5) rfl rfl q) ?_
  refine Wk.putF C (hw _ (List.mem_of_getElem? (i := 20) rfl)) Via.refl P1 P0 (Or.inr ⟨(hw _ (List.mem_of_getElem? (i := 16) rfl)), rfl, rfl⟩) (hw _ (List.mem_of_getElem? (i := 1) rfl)) (ty := (.array .byte)) (by decide) (v' := (.ref o1)) rfl rfl G_o0 d19_6 ?_
  intro h1 W2
  have F3 : Fld Z h1 o0 "java/lang/String" "value" "[B" (.ref o1) := P1.same W2
  have F4 : Exa Z h1 o0 "java/lang/String" := P0.wr W2
  have F5 : Fld Z h1 o0 "java/lang/String" "coder" "B" (.int (0 : Int32)) := P2.other W2 (Or.inr (slot_ne (Or.inr (hw _ (List.mem_of_getElem? (i := 17) rfl))) (Or.inr (hw _ (List.mem_of_getElem? (i := 16) rfl))) (by decide) (t := .byte) (t' := (.array .byte)) (by decide) (by decide)))
  have F6 : Sta Z h1 "java/lang/String" "COMPACT_STRINGS" "Z" (.int x0) := P3.wr W2
  have F7 : Exa Z h1 o1 "[B" := P4.wr W2
  have F8 : Fa Z h1 o1 .byte 1 (up (fun _ => (.int (0 : Int32))) 0 (.int x1)) := P5.other W2 (Ne.symm N_o0_o1)
  have sz9 : n0 ≤ h1.size := Nat.le_trans hsz (Nat.le_of_eq W2.size.symm)
  have sy10 : h0.size ≤ h1.size := Nat.le_trans (Nat.le_refl h0.size) (Nat.le_of_eq W2.size.symm)
  have K11 := (Keep.refl h0 [o0]).wr W2 (Or.inl (by simp))
  show Wk _ p l e _ s m _ below meth c n0 _ h1 0 0 (mkF m 9 #[.val (.ref o0), .val (.ref o1), .val (.int (0 : Int32))] [])
  refine Wk.st (g' := (mkF m 10 #[.val (.ref o0), .val (.ref o1), .val (.int (0 : Int32))] [(.ref o0)])) (fun X t q => XS.aloadN X.here C.hx rfl (hb C.hby d19_9) rfl rfl q) ?_
  refine Wk.st (g' := (mkF m 11 #[.val (.ref o0), .val (.ref o1), .val (.int (0 : Int32))] [(.int (0 : Int32)), (.ref o0)])) (fun X t q => XS.iloadN X.here C.hx rfl (hb C.hby d19_10) rfl q) ?_
  refine Wk.putF C (hw _ (List.mem_of_getElem? (i := 21) rfl)) Via.refl F5 F4 (Or.inr ⟨(hw _ (List.mem_of_getElem? (i := 17) rfl)), rfl, rfl⟩) (hw _ (List.mem_of_getElem? (i := 1) rfl)) (ty := .byte) (by decide) (v' := (.int (0 : Int32))) rfl (by decide) G_o0 d19_11 ?_
  intro h12 W13
  have F14 : Fld Z h12 o0 "java/lang/String" "coder" "B" (.int (0 : Int32)) := F5.same W13
  have F15 : Exa Z h12 o0 "java/lang/String" := F4.wr W13
  have F16 : Sta Z h12 "java/lang/String" "COMPACT_STRINGS" "Z" (.int x0) := F6.wr W13
  have F17 : Exa Z h12 o1 "[B" := F7.wr W13
  have F18 : Fa Z h12 o1 .byte 1 (up (fun _ => (.int (0 : Int32))) 0 (.int x1)) := F8.other W13 (Ne.symm N_o0_o1)
  have F19 : Fld Z h12 o0 "java/lang/String" "value" "[B" (.ref o1) := F3.other W13 (Or.inr (slot_ne (Or.inr (hw _ (List.mem_of_getElem? (i := 16) rfl))) (Or.inr (hw _ (List.mem_of_getElem? (i := 17) rfl))) (by decide) (t := (.array .byte)) (t' := .byte) (by decide) (by decide)))
  have sz20 : n0 ≤ h12.size := Nat.le_trans sz9 (Nat.le_of_eq W13.size.symm)
  have sy21 : h0.size ≤ h12.size := Nat.le_trans sy10 (Nat.le_of_eq W13.size.symm)
  have K22 := K11.wr W13 (Or.inl (by simp))
  show Wk _ p l e _ s m _ below meth c n0 _ h12 0 0 (mkF m 14 #[.val (.ref o0), .val (.ref o1), .val (.int (0 : Int32))] [])
  exact Wk.retN0 C rfl d19_14 (by decide) (by decide) ⟨rfl, K22, F16, F19, F14⟩
theorem d16_0 : decode jdk_42_method_139_code 0 = .ok (.getstatic 38, 3) := by decide +kernel
theorem d16_3 : decode jdk_42_method_139_code 3 = .ok (.ifCond .eq 23, 3) := by decide +kernel
theorem d16_6 : decode jdk_42_method_139_code 6 = .ok (.iload_n 0, 1) := by decide +kernel
theorem d16_7 : decode jdk_42_method_139_code 7 = .ok (.invokestatic 1015, 3) := by decide +kernel
theorem d16_10 : decode jdk_42_method_139_code 10 = .ok (.ifCond .eq 16, 3) := by decide +kernel
theorem d16_13 : decode jdk_42_method_139_code 13 = .ok (.new 10, 3) := by decide +kernel
theorem d16_16 : decode jdk_42_method_139_code 16 = .ok (.dup, 1) := by decide +kernel
theorem d16_17 : decode jdk_42_method_139_code 17 = .ok (.iload_n 0, 1) := by decide +kernel
theorem d16_18 : decode jdk_42_method_139_code 18 = .ok (.invokestatic 1018, 3) := by decide +kernel
theorem d16_21 : decode jdk_42_method_139_code 21 = .ok (.iconst 0, 1) := by decide +kernel
theorem d16_22 : decode jdk_42_method_139_code 22 = .ok (.invokespecial 209, 3) := by decide +kernel
theorem d16_25 : decode jdk_42_method_139_code 25 = .ok (.areturn, 1) := by decide +kernel
theorem d16_26 : decode jdk_42_method_139_code 26 = .ok (.new 10, 3) := by decide +kernel
theorem d16_29 : decode jdk_42_method_139_code 29 = .ok (.dup, 1) := by decide +kernel
theorem d16_30 : decode jdk_42_method_139_code 30 = .ok (.iload_n 0, 1) := by decide +kernel
theorem d16_31 : decode jdk_42_method_139_code 31 = .ok (.invokestatic 1021, 3) := by decide +kernel
theorem d16_34 : decode jdk_42_method_139_code 34 = .ok (.iconst 1, 1) := by decide +kernel
theorem d16_35 : decode jdk_42_method_139_code 35 = .ok (.invokespecial 209, 3) := by decide +kernel
theorem d16_38 : decode jdk_42_method_139_code 38 = .ok (.areturn, 1) := by decide +kernel
set_option maxRecDepth 65536 in
set_option maxHeartbeats 40000000 in
theorem own_16_9 (l : Launch) (Z : State) (a0 : Array Value) (hw : ∀ d ∈ tables_1, d.before a0 Z = true) (n0 : Nat) (h0 : Heap) (hsz : n0 ≤ h0.size) (x0 : Int32) (x1 : Int32) (P0 : Sta Z h0 "java/lang/String" "COMPACT_STRINGS" "Z" (.int x1)) (lat_x0 : ¬ (255 : Int32) < x0) (nz_x1 : ¬ x1 = (0 : Int32)) :
    Met true l Z n0 (⟨"java/lang/String", "valueOf", "(C)Ljava/lang/String;"⟩ : MethodName) jdk_42_method_139_code 1 (some (.object "java/lang/String")) ({ frames := 2, cells := 2, slots := 5, locals := 27 } : Room) #[(.int x0)] h0 (fun v h => ∃ b5 : Addr, ∃ n18_b2 : Addr, v = some (.ref b5) ∧ Keep h0 h [] ∧ h0.size ≤ b5 ∧ h0.size ≤ n18_b2 ∧ b5 ≠ n18_b2 ∧ Exa Z h b5 "java/lang/String" ∧ Exa Z h n18_b2 "[B" ∧ Fa Z h n18_b2 .byte 1 (up (fun _ => (.int (0 : Int32))) 0 (.int (nar .byte (x0.toInt8.toInt32)))) ∧ Sta Z h "java/lang/String" "COMPACT_STRINGS" "Z" (.int x1) ∧ Fld Z h b5 "java/lang/String" "value" "[B" (.ref n18_b2) ∧ Fld Z h b5 "java/lang/String" "coder" "B" (.int (0 : Int32))) := by
  refine Met.of (plainFor_of_name pn_0) #[.val (.int x0)] (fun m => by first | (simp [entryFrame, mkF, argsToLocals, Value.category]; done) | rfl) ?_
  intro p e s m below meth c C
  refine Wk.getS C (hw _ (List.mem_of_getElem? (i := 75) rfl)) P0 d16_0 ?_
  show Wk _ p l e _ s m _ below meth c n0 _ h0 0 0 (mkF m 3 #[.val (.int x0)] [(.int x1)])
  refine Wk.st (g' := (mkF m 6 #[.val (.int x0)] [])) (fun X t q => XS.ifNo X.here C.hx rfl (hb C.hby d16_3) rfl (XT.i0_eq_f nz_x1) q) ?_
  refine Wk.st (g' := (mkF m 7 #[.val (.int x0)] [(.int x0)])) (fun X t q => XS.iloadN X.here C.hx rfl (hb C.hby d16_6) rfl q) ?_
  refine Wk.callS C (z := (⟨"java/lang/StringLatin1", "canEncode", "(C)Z"⟩ : MethodName)) (hw _ (List.mem_of_getElem? (i := 89) rfl)) (hw _ (List.mem_of_getElem? (i := 90) rfl)) (hw _ (List.mem_of_getElem? (i := 91) rfl)) (hw _ (List.mem_of_getElem? (i := 92) rfl)) (by decide) (own_17_9 l Z a0 hw n0 h0 hsz  x0 x1 P0   lat_x0 nz_x1) (w := 0) (by decide) (by decide) pd_11 rfl (rest := []) rfl rfl (Nat.le_of_eq rfl) (by decide) (by decide) d16_7 ?_
  rintro _ _ ⟨rfl, rfl⟩
  show Wk _ p l e _ s m _ below meth c n0 _ h0 0 0 (mkF m 10 #[.val (.int x0)] [(.int (1 : Int32))])
  refine Wk.st (g' := (mkF m 13 #[.val (.int x0)] [])) (fun X t q => XS.ifNo X.here C.hx rfl (hb C.hby d16_10) rfl (XT.i0_eq_f (by decide)) q) ?_
  refine Wk.newO C (hw _ (List.mem_of_getElem? (i := 93) rfl)) (hw _ (List.mem_of_getElem? (i := 1) rfl)) (hw _ (List.mem_of_getElem? (i := 2) rfl)) d16_13 (by decide) (by decide) ?_
  intro h4 b5 g6 E7 A8 D9
  have ge10 : n0 ≤ b5 := Nat.le_trans hsz (Nat.le_of_eq g6.symm)
  have gz11 : h0.size ≤ b5 := Nat.le_trans (Nat.le_refl h0.size) (Nat.le_of_eq g6.symm)
  have F12 : Sta Z h4 "java/lang/String" "COMPACT_STRINGS" "Z" (.int x1) := P0.ext E7
  have sz13 : n0 ≤ h4.size := Nat.le_trans hsz E7.1
  have sy14 : h0.size ≤ h4.size := Nat.le_trans (Nat.le_refl h0.size) E7.1
  have K15 := (Keep.refl h0 []).ext E7
  have F16 : Fld Z h4 b5 "java/lang/String" "value" "[B" .null := D9 (Or.inr (hw _ (List.mem_of_getElem? (i := 16) rfl))) (ty := (.array .byte)) (by decide)
  have F17 : Fld Z h4 b5 "java/lang/String" "coder" "B" (.int (0 : Int32)) := D9 (Or.inr (hw _ (List.mem_of_getElem? (i := 17) rfl))) (ty := .byte) (by decide)
  show Wk _ p l e _ s m _ below meth c n0 _ h4 1 4 (mkF m 16 #[.val (.int x0)] [(.ref b5)])
  refine Wk.st (g' := (mkF m 17 #[.val (.int x0)] [(.ref b5), (.ref b5)])) (fun X t q => XS.dup X.here C.hx rfl (hb C.hby d16_16) rfl rfl q) ?_
  refine Wk.st (g' := (mkF m 18 #[.val (.int x0)] [(.int x0), (.ref b5), (.ref b5)])) (fun X t q => XS.iloadN X.here C.hx rfl (hb C.hby d16_17) rfl q) ?_
  refine Wk.callS C (z := (⟨"java/lang/StringLatin1", "toBytes", "(C)[B"⟩ : MethodName)) (hw _ (List.mem_of_getElem? (i := 94) rfl)) (hw _ (List.mem_of_getElem? (i := 95) rfl)) (hw _ (List.mem_of_getElem? (i := 91) rfl)) (hw _ (List.mem_of_getElem? (i := 96) rfl)) (by decide) (own_18_10 l Z a0 hw n0 h4 sz13  x0 x1 F12   lat_x0 nz_x1) (w := 2) (by decide) (by decide) pd_12 rfl (rest := [(.ref b5), (.ref b5)]) rfl rfl (Nat.le_of_eq rfl) (by decide) (by decide) d16_18 ?_
  rintro _ h19 ⟨n18_b2, rfl, K20, gn24, F21, F22, F23⟩
  show Wk _ p l e _ s m _ below meth c n0 _ h19 2 5 (mkF m 21 #[.val (.int x0)] [(.ref n18_b2), (.ref b5), (.ref b5)])
  have ne25 : b5 ≠ n18_b2 := Nat.ne_of_lt (Nat.lt_of_lt_of_le A8.lt gn24)
  have ge26 : n0 ≤ n18_b2 := Nat.le_trans sz13 gn24
  have gz27 : h0.size ≤ n18_b2 := Nat.le_trans sy14 gn24
  have F28 : Exa Z h19 b5 "java/lang/String" := A8.keep K20
  have F29 : Fld Z h19 b5 "java/lang/String" "value" "[B" .null := F16.keep K20 nm0
  have F30 : Fld Z h19 b5 "java/lang/String" "coder" "B" (.int (0 : Int32)) := F17.keep K20 nm0
  have sz31 : n0 ≤ h19.size := Nat.le_trans sz13 K20.1
  have K32 := K15.trans K20 nv0
  have sy33 : h0.size ≤ h19.size := Nat.le_trans sy14 K20.1
  refine Wk.st (g' := (mkF m 22 #[.val (.int x0)] [(.int (0 : Int32)), (.ref n18_b2), (.ref b5), (.ref b5)])) (fun X t q => XS.iconst X.here C.hx rfl (hb C.hby d16_21) q) ?_
  refine Wk.callI C (z := (⟨"java/lang/String", "<init>", "([BB)V"⟩ : MethodName)) rfl (hw _ (List.mem_of_getElem? (i := 97) rfl)) (hw _ (List.mem_of_getElem? (i := 98) rfl)) (hw _ (List.mem_of_getElem? (i := 2) rfl)) (hw _ (List.mem_of_getElem? (i := 99) rfl)) (by decide) (own_19_11 l Z a0 hw n0 h19 sz31 b5 n18_b2 x1 (nar .byte (x0.toInt8.toInt32)) F28 F29 F30 F21 F22 F23 ne25 ge10 ge26 nz_x1) (w := 1) (by decide) (by decide) pd_13 rfl (rest := [(.ref b5)]) rfl rfl (Nat.le_of_eq rfl) (by decide) (by decide) d16_22 ?_
  rintro _ h35 ⟨rfl, K36, F37, F38, F39⟩
  show Wk _ p l e _ s m _ below meth c n0 _ h35 2 5 (mkF m 25 #[.val (.int x0)] [(.ref b5)])
  have F40 : Exa Z h35 b5 "java/lang/String" := F28.keep K36
  have F41 : Exa Z h35 n18_b2 "[B" := F22.keep K36
  have F42 : Fa Z h35 n18_b2 .byte 1 (up (fun _ => (.int (0 : Int32))) 0 (.int (nar .byte (x0.toInt8.toInt32)))) := F23.keep K36 (nmS (Ne.symm ne25) nm0)
  have sz43 : n0 ≤ h35.size := Nat.le_trans sz31 K36.1
  have K44 := K32.trans K36 (nvS (Or.inr gz11) nv0)
  have sy45 : h0.size ≤ h35.size := Nat.le_trans sy33 K36.1
  exact Wk.retV C (t := (.object "java/lang/String")) rfl rfl (Or.inr (Or.inr (Or.inr (Or.inr ⟨rfl, rfl, rfl⟩)))) d16_25 (by decide) (by decide) ⟨b5, n18_b2, rfl, K44, gz11, gz27, ne25, F40, F41, F42, F37, F38, F39⟩
set_option maxRecDepth 65536 in
set_option maxHeartbeats 40000000 in
theorem own_7_13 (l : Launch) (Z : State) (a0 : Array Value) (hw : ∀ d ∈ tables_1, d.before a0 Z = true) (n0 : Nat) (h0 : Heap) (hsz : n0 ≤ h0.size) (o0 : Addr) (o1 : Addr) (o2 : Addr) (x0 : Int32) (x1 : Int32) (P0 : Exa Z h0 o0 "java/lang/String") (P1 : Exa Z h0 o2 "[B") (P2 : Fa Z h0 o2 .byte 1 (up (fun _ => (.int (0 : Int32))) 0 (.int x0))) (P3 : Sta Z h0 "java/lang/String" "COMPACT_STRINGS" "Z" (.int x1)) (P4 : Fld Z h0 o0 "java/lang/String" "value" "[B" (.ref o2)) (P5 : Fld Z h0 o0 "java/lang/String" "coder" "B" (.int (0 : Int32))) (N_o0_o2 : o0 ≠ o2) (G_o0 : n0 ≤ o0) (G_o2 : n0 ≤ o2) (nz_x1 : ¬ x1 = (0 : Int32)) :
    Met true l Z n0 (⟨"java/util/Objects", "requireNonNull", "(Ljava/lang/Object;Ljava/lang/String;)Ljava/lang/Object;"⟩ : MethodName) jdk_31_method_11_code 2 (some (.object "java/lang/Object")) ({ frames := 0, cells := 0, slots := 0, locals := 0 } : Room) #[(.ref o0), (.ref o1)] h0 (fun v h => v = some (.ref o0) ∧ h0 = h) := by
  refine Met.of (plainFor_of_name pn_2) #[.val (.ref o0), .val (.ref o1)] (fun m => by first | (simp [entryFrame, mkF, argsToLocals, Value.category]; done) | rfl) ?_
  intro p e s m below meth c C
  refine Wk.st (g' := (mkF m 1 #[.val (.ref o0), .val (.ref o1)] [(.ref o0)])) (fun X t q => XS.aloadN X.here C.hx rfl (hb C.hby d7_0) rfl rfl q) ?_
  refine Wk.st (g' := (mkF m 13 #[.val (.ref o0), .val (.ref o1)] [])) (fun X t q => XS.ifnonnullYes X.here C.hx rfl (pc0 := 1) (pc' := 13) rfl (hb C.hby d7_1) rfl (by decide) (by decide) q) ?_
  refine Wk.st (g' := (mkF m 14 #[.val (.ref o0), .val (.ref o1)] [(.ref o0)])) (fun X t q => XS.aloadN X.here C.hx rfl (hb C.hby d7_13) rfl rfl q) ?_
  exact Wk.retV C (t := (.object "java/lang/Object")) rfl rfl (Or.inr (Or.inr (Or.inr (Or.inr ⟨rfl, rfl, rfl⟩)))) d7_14 (by decide) (by decide) ⟨rfl, rfl⟩
set_option maxRecDepth 65536 in
set_option maxHeartbeats 40000000 in
theorem own_5_13 (l : Launch) (Z : State) (a0 : Array Value) (hw : ∀ d ∈ tables_1, d.before a0 Z = true) (n0 : Nat) (h0 : Heap) (hsz : n0 ≤ h0.size) (o0 : Addr) (o1 : Addr) (o2 : Addr) (x0 : Int32) (x1 : Int32) (P0 : Exa Z h0 o1 "java/lang/String") (P1 : Exa Z h0 o2 "[B") (P2 : Fa Z h0 o2 .byte 1 (up (fun _ => (.int (0 : Int32))) 0 (.int x0))) (P3 : Sta Z h0 "java/lang/String" "COMPACT_STRINGS" "Z" (.int x1)) (P4 : Fld Z h0 o1 "java/lang/String" "value" "[B" (.ref o2)) (P5 : Fld Z h0 o1 "java/lang/String" "coder" "B" (.int (0 : Int32))) (P6 : Exa Z h0 o0 "com/example/escrow/escrow/LockRecord") (P7 : Fld Z h0 o0 "com/example/escrow/escrow/LockRecord" "name" "Ljava/lang/String;" .null) (P8 : Fld Z h0 o0 "com/example/escrow/escrow/LockRecord" "token" "J" (.long (0 : Int64))) (P9 : Fld Z h0 o0 "com/example/escrow/escrow/LockRecord" "owner" "Ljava/lang/String;" .null) (P10 : Fld Z h0 o0 "com/example/escrow/escrow/LockRecord" "claim" "Lcom/example/escrow/escrow/Claim;" .null) (N_o0_o1 : o0 ≠ o1) (N_o0_o2 : o0 ≠ o2) (N_o1_o2 : o1 ≠ o2) (G_o0 : n0 ≤ o0) (G_o1 : n0 ≤ o1) (G_o2 : n0 ≤ o2) (nz_x1 : ¬ x1 = (0 : Int32)) :
    Met true l Z n0 (⟨"com/example/escrow/escrow/LockRecord", "<init>", "(Ljava/lang/String;JLjava/lang/String;Lcom/example/escrow/escrow/Claim;)V"⟩ : MethodName) prog_25_method_1_code 6 none ({ frames := 2, cells := 2, slots := 20, locals := 24 } : Room) #[(.ref o0), (.ref o1), (.long (0 : Int64)), .null, .null] h0 (fun v h => v = none ∧ Keep h0 h [o0] ∧ Sta Z h "java/lang/String" "COMPACT_STRINGS" "Z" (.int x1) ∧ Fld Z h o0 "com/example/escrow/escrow/LockRecord" "name" "Ljava/lang/String;" (.ref o1) ∧ Fld Z h o0 "com/example/escrow/escrow/LockRecord" "token" "J" (.long (0 : Int64)) ∧ Fld Z h o0 "com/example/escrow/escrow/LockRecord" "owner" "Ljava/lang/String;" .null ∧ Fld Z h o0 "com/example/escrow/escrow/LockRecord" "claim" "Lcom/example/escrow/escrow/Claim;" .null) := by
  refine Met.of (plainFor_of_name pn_3) #[.val (.ref o0), .val (.ref o1), .val (.long (0 : Int64)), .second, .val .null, .val .null] (fun m => by first | (simp [entryFrame, mkF, argsToLocals, Value.category]; done) | rfl) ?_
  intro p e s m below meth c C
  refine Wk.st (g' := (mkF m 1 #[.val (.ref o0), .val (.ref o1), .val (.long (0 : Int64)), .second, .val .null, .val .null] [(.ref o0)])) (fun X t q => XS.aloadN X.here C.hx rfl (hb C.hby d5_0) rfl rfl q) ?_
  refine Wk.callI C (z := (⟨"java/lang/Record", "<init>", "()V"⟩ : MethodName)) rfl (hw _ (List.mem_of_getElem? (i := 31) rfl)) (hw _ (List.mem_of_getElem? (i := 32) rfl)) (hw _ (List.mem_of_getElem? (i := 34) rfl)) (hw _ (List.mem_of_getElem? (i := 35) rfl)) (by decide) (own_6_0 l Z a0 hw n0 h0 hsz o0 x1 P3 P6 P7 P8 P9 P10  G_o0 nz_x1) (w := 0) (by decide) (by decide) pd_4 rfl (rest := []) rfl rfl (Nat.le_of_eq rfl) (by decide) (by decide) d5_1 ?_
  rintro _ _ ⟨rfl, rfl⟩
  show Wk _ p l e _ s m _ below meth c n0 _ h0 0 0 (mkF m 4 #[.val (.ref o0), .val (.ref o1), .val (.long (0 : Int64)), .second, .val .null, .val .null] [])
  refine Wk.st (g' := (mkF m 5 #[.val (.ref o0), .val (.ref o1), .val (.long (0 : Int64)), .second, .val .null, .val .null] [(.ref o1)])) (fun X t q => XS.aloadN X.here C.hx rfl (hb C.hby d5_4) rfl rfl q) ?_
  refine Wk.ldcS C (hw _ (List.mem_of_getElem? (i := 37) rfl)) (own_wS hw) (N := 16) (by decide) (by decide) d5_5 (by decide) (by decide) ?_
  intro h4 a5 E6
  have F7 : Exa Z h4 o1 "java/lang/String" := P0.ext E6
  have F8 : Exa Z h4 o2 "[B" := P1.ext E6
  have F9 : Fa Z h4 o2 .byte 1 (up (fun _ => (.int (0 : Int32))) 0 (.int x0)) := P2.ext E6
  have F10 : Sta Z h4 "java/lang/String" "COMPACT_STRINGS" "Z" (.int x1) := P3.ext E6
  have F11 : Fld Z h4 o1 "java/lang/String" "value" "[B" (.ref o2) := P4.ext E6
  have F12 : Fld Z h4 o1 "java/lang/String" "coder" "B" (.int (0 : Int32)) := P5.ext E6
  have F13 : Exa Z h4 o0 "com/example/escrow/escrow/LockRecord" := P6.ext E6
  have F14 : Fld Z h4 o0 "com/example/escrow/escrow/LockRecord" "name" "Ljava/lang/String;" .null := P7.ext E6
  have F15 : Fld Z h4 o0 "com/example/escrow/escrow/LockRecord" "token" "J" (.long (0 : Int64)) := P8.ext E6
  have F16 : Fld Z h4 o0 "com/example/escrow/escrow/LockRecord" "owner" "Ljava/lang/String;" .null := P9.ext E6
  have F17 : Fld Z h4 o0 "com/example/escrow/escrow/LockRecord" "claim" "Lcom/example/escrow/escrow/Claim;" .null := P10.ext E6
  have sz18 : n0 ≤ h4.size := Nat.le_trans hsz E6.1
  have sy19 : h0.size ≤ h4.size := Nat.le_trans (Nat.le_refl h0.size) E6.1
  have K20 := (Keep.refl h0 [o0]).ext E6
  show Wk _ p l e _ s m _ below meth c n0 _ h4 2 20 (mkF m 7 #[.val (.ref o0), .val (.ref o1), .val (.long (0 : Int64)), .second, .val .null, .val .null] [(.ref a5), (.ref o1)])
  refine Wk.callS C (z := (⟨"java/util/Objects", "requireNonNull", "(Ljava/lang/Object;Ljava/lang/String;)Ljava/lang/Object;"⟩ : MethodName)) (hw _ (List.mem_of_getElem? (i := 38) rfl)) (hw _ (List.mem_of_getElem? (i := 39) rfl)) (hw _ (List.mem_of_getElem? (i := 40) rfl)) (hw _ (List.mem_of_getElem? (i := 41) rfl)) (by decide) (own_7_13 l Z a0 hw n0 h4 sz18 o1 a5 o2 x0 x1 F7 F8 F9 F10 F11 F12 N_o1_o2 G_o1 G_o2 nz_x1) (w := 0) (by decide) (by decide) pd_5 rfl (rest := []) rfl rfl (Nat.le_of_eq rfl) (by decide) (by decide) d5_7 ?_
  rintro _ _ ⟨rfl, rfl⟩
  show Wk _ p l e _ s m _ below meth c n0 _ h4 2 20 (mkF m 10 #[.val (.ref o0), .val (.ref o1), .val (.long (0 : Int64)), .second, .val .null, .val .null] [(.ref o1)])
  refine Wk.st (g' := (mkF m 11 #[.val (.ref o0), .val (.ref o1), .val (.long (0 : Int64)), .second, .val .null, .val .null] [])) (fun X t q => XS.pop X.here C.hx rfl (hb C.hby d5_10) rfl rfl q) ?_
  refine Wk.st (g' := (mkF m 12 #[.val (.ref o0), .val (.ref o1), .val (.long (0 : Int64)), .second, .val .null, .val .null] [(.ref o0)])) (fun X t q => XS.aloadN X.here C.hx rfl (hb C.hby d5_11) rfl rfl q) ?_
  refine Wk.st (g' := (mkF m 13 #[.val (.ref o0), .val (.ref o1), .val (.long (0 : Int64)), .second, .val .null, .val .null] [(.ref o1), (.ref o0)])) (fun X t q => XS.aloadN X.here C.hx rfl (hb C.hby d5_12) rfl rfl q) ?_
  refine Wk.putF C (hw _ (List.mem_of_getElem? (i := 42) rfl)) Via.refl F14 F13 (Or.inr ⟨(hw _ (List.mem_of_getElem? (i := 43) rfl)), rfl, rfl⟩) (hw _ (List.mem_of_getElem? (i := 27) rfl)) (ty := (.object "java/lang/String")) (by decide) (v' := (.ref o1)) rfl rfl G_o0 d5_13 ?_
  intro h24 W25
  have F26 : Fld Z h24 o0 "com/example/escrow/escrow/LockRecord" "name" "Ljava/lang/String;" (.ref o1) := F14.same W25
  have F27 : Exa Z h24 o1 "java/lang/String" := F7.wr W25
  have F28 : Exa Z h24 o2 "[B" := F8.wr W25
  have F29 : Fa Z h24 o2 .byte 1 (up (fun _ => (.int (0 : Int32))) 0 (.int x0)) := F9.other W25 (Ne.symm N_o0_o2)
  have F30 : Sta Z h24 "java/lang/String" "COMPACT_STRINGS" "Z" (.int x1) := F10.wr W25
  have F31 : Fld Z h24 o1 "java/lang/String" "value" "[B" (.ref o2) := F11.other W25 (Or.inl (Ne.symm N_o0_o1))
  have F32 : Fld Z h24 o1 "java/lang/String" "coder" "B" (.int (0 : Int32)) := F12.other W25 (Or.inl (Ne.symm N_o0_o1))
  have F33 : Exa Z h24 o0 "com/example/escrow/escrow/LockRecord" := F13.wr W25
  have F34 : Fld Z h24 o0 "com/example/escrow/escrow/LockRecord" "token" "J" (.long (0 : Int64)) := F15.other W25 (Or.inr (slot_ne (Or.inr (hw _ (List.mem_of_getElem? (i := 45) rfl))) (Or.inr (hw _ (List.mem_of_getElem? (i := 43) rfl))) (by decide) (t := .long) (t' := (.object "java/lang/String")) (by decide) (by decide)))
  have F35 : Fld Z h24 o0 "com/example/escrow/escrow/LockRecord" "owner" "Ljava/lang/String;" .null := F16.other W25 (Or.inr (slot_ne (Or.inr (hw _ (List.mem_of_getElem? (i := 47) rfl))) (Or.inr (hw _ (List.mem_of_getElem? (i := 43) rfl))) (by decide) (t := (.object "java/lang/String")) (t' := (.object "java/lang/String")) (by decide) (by decide)))
  have F36 : Fld Z h24 o0 "com/example/escrow/escrow/LockRecord" "claim" "Lcom/example/escrow/escrow/Claim;" .null := F17.other W25 (Or.inr (slot_ne (Or.inr (hw _ (List.mem_of_getElem? (i := 49) rfl))) (Or.inr (hw _ (List.mem_of_getElem? (i := 43) rfl))) (by decide) (t := (.object "com/example/escrow/escrow/Claim")) (t' := (.object "java/lang/String")) (by decide) (by decide)))
  have sz37 : n0 ≤ h24.size := Nat.le_trans sz18 (Nat.le_of_eq W25.size.symm)
  have sy38 : h0.size ≤ h24.size := Nat.le_trans sy19 (Nat.le_of_eq W25.size.symm)
  have K39 := K20.wr W25 (Or.inl (by simp))
  show Wk _ p l e _ s m _ below meth c n0 _ h24 2 20 (mkF m 16 #[.val (.ref o0), .val (.ref o1), .val (.long (0 : Int64)), .second, .val .null, .val .null] [])
  refine Wk.st (g' := (mkF m 17 #[.val (.ref o0), .val (.ref o1), .val (.long (0 : Int64)), .second, .val .null, .val .null] [(.ref o0)])) (fun X t q => XS.aloadN X.here C.hx rfl (hb C.hby d5_16) rfl rfl q) ?_
  refine Wk.st (g' := (mkF m 18 #[.val (.ref o0), .val (.ref o1), .val (.long (0 : Int64)), .second, .val .null, .val .null] [(.long (0 : Int64)), (.ref o0)])) (fun X t q => XS.lloadN X.here C.hx rfl (hb C.hby d5_17) rfl q) ?_
  refine Wk.putF C (hw _ (List.mem_of_getElem? (i := 44) rfl)) Via.refl F34 F33 (Or.inr ⟨(hw _ (List.mem_of_getElem? (i := 45) rfl)), rfl, rfl⟩) (hw _ (List.mem_of_getElem? (i := 27) rfl)) (ty := .long) (by decide) (v' := (.long (0 : Int64))) rfl rfl G_o0 d5_18 ?_
  intro h40 W41
  have F42 : Fld Z h40 o0 "com/example/escrow/escrow/LockRecord" "token" "J" (.long (0 : Int64)) := F34.same W41
  have F43 : Exa Z h40 o1 "java/lang/String" := F27.wr W41
  have F44 : Exa Z h40 o2 "[B" := F28.wr W41
  have F45 : Fa Z h40 o2 .byte 1 (up (fun _ => (.int (0 : Int32))) 0 (.int x0)) := F29.other W41 (Ne.symm N_o0_o2)
  have F46 : Sta Z h40 "java/lang/String" "COMPACT_STRINGS" "Z" (.int x1) := F30.wr W41
  have F47 : Fld Z h40 o1 "java/lang/String" "value" "[B" (.ref o2) := F31.other W41 (Or.inl (Ne.symm N_o0_o1))
  have F48 : Fld Z h40 o1 "java/lang/String" "coder" "B" (.int (0 : Int32)) := F32.other W41 (Or.inl (Ne.symm N_o0_o1))
  have F49 : Exa Z h40 o0 "com/example/escrow/escrow/LockRecord" := F33.wr W41
  have F50 : Fld Z h40 o0 "com/example/escrow/escrow/LockRecord" "owner" "Ljava/lang/String;" .null := F35.other W41 (Or.inr (slot_ne (Or.inr (hw _ (List.mem_of_getElem? (i := 47) rfl))) (Or.inr (hw _ (List.mem_of_getElem? (i := 45) rfl))) (by decide) (t := (.object "java/lang/String")) (t' := .long) (by decide) (by decide)))
  have F51 : Fld Z h40 o0 "com/example/escrow/escrow/LockRecord" "claim" "Lcom/example/escrow/escrow/Claim;" .null := F36.other W41 (Or.inr (slot_ne (Or.inr (hw _ (List.mem_of_getElem? (i := 49) rfl))) (Or.inr (hw _ (List.mem_of_getElem? (i := 45) rfl))) (by decide) (t := (.object "com/example/escrow/escrow/Claim")) (t' := .long) (by decide) (by decide)))
  have F52 : Fld Z h40 o0 "com/example/escrow/escrow/LockRecord" "name" "Ljava/lang/String;" (.ref o1) := F26.other W41 (Or.inr (slot_ne (Or.inr (hw _ (List.mem_of_getElem? (i := 43) rfl))) (Or.inr (hw _ (List.mem_of_getElem? (i := 45) rfl))) (by decide) (t := (.object "java/lang/String")) (t' := .long) (by decide) (by decide)))
  have sz53 : n0 ≤ h40.size := Nat.le_trans sz37 (Nat.le_of_eq W41.size.symm)
  have sy54 : h0.size ≤ h40.size := Nat.le_trans sy38 (Nat.le_of_eq W41.size.symm)
  have K55 := K39.wr W41 (Or.inl (by simp))
  show Wk _ p l e _ s m _ below meth c n0 _ h40 2 20 (mkF m 21 #[.val (.ref o0), .val (.ref o1), .val (.long (0 : Int64)), .second, .val .null, .val .null] [])
  refine Wk.st (g' := (mkF m 22 #[.val (.ref o0), .val (.ref o1), .val (.long (0 : Int64)), .second, .val .null, .val .null] [(.ref o0)])) (fun X t q => XS.aloadN X.here C.hx rfl (hb C.hby d5_21) rfl rfl q) ?_
  refine Wk.st (g' := (mkF m 24 #[.val (.ref o0), .val (.ref o1), .val (.long (0 : Int64)), .second, .val .null, .val .null] [.null, (.ref o0)])) (fun X t q => XS.aload X.here C.hx rfl (hb C.hby d5_22) rfl rfl q) ?_
  refine Wk.putF C (hw _ (List.mem_of_getElem? (i := 46) rfl)) Via.refl F50 F49 (Or.inr ⟨(hw _ (List.mem_of_getElem? (i := 47) rfl)), rfl, rfl⟩) (hw _ (List.mem_of_getElem? (i := 27) rfl)) (ty := (.object "java/lang/String")) (by decide) (v' := .null) rfl rfl G_o0 d5_24 ?_
  intro h56 W57
  have F58 : Fld Z h56 o0 "com/example/escrow/escrow/LockRecord" "owner" "Ljava/lang/String;" .null := F50.same W57
  have F59 : Exa Z h56 o1 "java/lang/String" := F43.wr W57
  have F60 : Exa Z h56 o2 "[B" := F44.wr W57
  have F61 : Fa Z h56 o2 .byte 1 (up (fun _ => (.int (0 : Int32))) 0 (.int x0)) := F45.other W57 (Ne.symm N_o0_o2)
  have F62 : Sta Z h56 "java/lang/String" "COMPACT_STRINGS" "Z" (.int x1) := F46.wr W57
  have F63 : Fld Z h56 o1 "java/lang/String" "value" "[B" (.ref o2) := F47.other W57 (Or.inl (Ne.symm N_o0_o1))
  have F64 : Fld Z h56 o1 "java/lang/String" "coder" "B" (.int (0 : Int32)) := F48.other W57 (Or.inl (Ne.symm N_o0_o1))
  have F65 : Exa Z h56 o0 "com/example/escrow/escrow/LockRecord" := F49.wr W57
  have F66 : Fld Z h56 o0 "com/example/escrow/escrow/LockRecord" "claim" "Lcom/example/escrow/escrow/Claim;" .null := F51.other W57 (Or.inr (slot_ne (Or.inr (hw _ (List.mem_of_getElem? (i := 49) rfl))) (Or.inr (hw _ (List.mem_of_getElem? (i := 47) rfl))) (by decide) (t := (.object "com/example/escrow/escrow/Claim")) (t' := (.object "java/lang/String")) (by decide) (by decide)))
  have F67 : Fld Z h56 o0 "com/example/escrow/escrow/LockRecord" "name" "Ljava/lang/String;" (.ref o1) := F52.other W57 (Or.inr (slot_ne (Or.inr (hw _ (List.mem_of_getElem? (i := 43) rfl))) (Or.inr (hw _ (List.mem_of_getElem? (i := 47) rfl))) (by decide) (t := (.object "java/lang/String")) (t' := (.object "java/lang/String")) (by decide) (by decide)))
  have F68 : Fld Z h56 o0 "com/example/escrow/escrow/LockRecord" "token" "J" (.long (0 : Int64)) := F42.other W57 (Or.inr (slot_ne (Or.inr (hw _ (List.mem_of_getElem? (i := 45) rfl))) (Or.inr (hw _ (List.mem_of_getElem? (i := 47) rfl))) (by decide) (t := .long) (t' := (.object "java/lang/String")) (by decide) (by decide)))
  have sz69 : n0 ≤ h56.size := Nat.le_trans sz53 (Nat.le_of_eq W57.size.symm)
  have sy70 : h0.size ≤ h56.size := Nat.le_trans sy54 (Nat.le_of_eq W57.size.symm)
  have K71 := K55.wr W57 (Or.inl (by simp))
  show Wk _ p l e _ s m _ below meth c n0 _ h56 2 20 (mkF m 27 #[.val (.ref o0), .val (.ref o1), .val (.long (0 : Int64)), .second, .val .null, .val .null] [])
  refine Wk.st (g' := (mkF m 28 #[.val (.ref o0), .val (.ref o1), .val (.long (0 : Int64)), .second, .val .null, .val .null] [(.ref o0)])) (fun X t q => XS.aloadN X.here C.hx rfl (hb C.hby d5_27) rfl rfl q) ?_
  refine Wk.st (g' := (mkF m 30 #[.val (.ref o0), .val (.ref o1), .val (.long (0 : Int64)), .second, .val .null, .val .null] [.null, (.ref o0)])) (fun X t q => XS.aload X.here C.hx rfl (hb C.hby d5_28) rfl rfl q) ?_
  refine Wk.putF C (hw _ (List.mem_of_getElem? (i := 48) rfl)) Via.refl F66 F65 (Or.inr ⟨(hw _ (List.mem_of_getElem? (i := 49) rfl)), rfl, rfl⟩) (hw _ (List.mem_of_getElem? (i := 27) rfl)) (ty := (.object "com/example/escrow/escrow/Claim")) (by decide) (v' := .null) rfl rfl G_o0 d5_30 ?_
  intro h72 W73
  have F74 : Fld Z h72 o0 "com/example/escrow/escrow/LockRecord" "claim" "Lcom/example/escrow/escrow/Claim;" .null := F66.same W73
  have F75 : Exa Z h72 o1 "java/lang/String" := F59.wr W73
  have F76 : Exa Z h72 o2 "[B" := F60.wr W73
  have F77 : Fa Z h72 o2 .byte 1 (up (fun _ => (.int (0 : Int32))) 0 (.int x0)) := F61.other W73 (Ne.symm N_o0_o2)
  have F78 : Sta Z h72 "java/lang/String" "COMPACT_STRINGS" "Z" (.int x1) := F62.wr W73
  have F79 : Fld Z h72 o1 "java/lang/String" "value" "[B" (.ref o2) := F63.other W73 (Or.inl (Ne.symm N_o0_o1))
  have F80 : Fld Z h72 o1 "java/lang/String" "coder" "B" (.int (0 : Int32)) := F64.other W73 (Or.inl (Ne.symm N_o0_o1))
  have F81 : Exa Z h72 o0 "com/example/escrow/escrow/LockRecord" := F65.wr W73
  have F82 : Fld Z h72 o0 "com/example/escrow/escrow/LockRecord" "name" "Ljava/lang/String;" (.ref o1) := F67.other W73 (Or.inr (slot_ne (Or.inr (hw _ (List.mem_of_getElem? (i := 43) rfl))) (Or.inr (hw _ (List.mem_of_getElem? (i := 49) rfl))) (by decide) (t := (.object "java/lang/String")) (t' := (.object "com/example/escrow/escrow/Claim")) (by decide) (by decide)))
  have F83 : Fld Z h72 o0 "com/example/escrow/escrow/LockRecord" "token" "J" (.long (0 : Int64)) := F68.other W73 (Or.inr (slot_ne (Or.inr (hw _ (List.mem_of_getElem? (i := 45) rfl))) (Or.inr (hw _ (List.mem_of_getElem? (i := 49) rfl))) (by decide) (t := .long) (t' := (.object "com/example/escrow/escrow/Claim")) (by decide) (by decide)))
  have F84 : Fld Z h72 o0 "com/example/escrow/escrow/LockRecord" "owner" "Ljava/lang/String;" .null := F58.other W73 (Or.inr (slot_ne (Or.inr (hw _ (List.mem_of_getElem? (i := 47) rfl))) (Or.inr (hw _ (List.mem_of_getElem? (i := 49) rfl))) (by decide) (t := (.object "java/lang/String")) (t' := (.object "com/example/escrow/escrow/Claim")) (by decide) (by decide)))
  have sz85 : n0 ≤ h72.size := Nat.le_trans sz69 (Nat.le_of_eq W73.size.symm)
  have sy86 : h0.size ≤ h72.size := Nat.le_trans sy70 (Nat.le_of_eq W73.size.symm)
  have K87 := K71.wr W73 (Or.inl (by simp))
  show Wk _ p l e _ s m _ below meth c n0 _ h72 2 20 (mkF m 33 #[.val (.ref o0), .val (.ref o1), .val (.long (0 : Int64)), .second, .val .null, .val .null] [])
  exact Wk.retN0 C rfl d5_33 (by decide) (by decide) ⟨rfl, K87, F78, F82, F83, F84, F74⟩
set_option maxRecDepth 65536 in
set_option maxHeartbeats 40000000 in
theorem own_4_13 (l : Launch) (Z : State) (a0 : Array Value) (hw : ∀ d ∈ tables_1, d.before a0 Z = true) (n0 : Nat) (h0 : Heap) (hsz : n0 ≤ h0.size) (o0 : Addr) (o1 : Addr) (x0 : Int32) (x1 : Int32) (P0 : Exa Z h0 o0 "java/lang/String") (P1 : Exa Z h0 o1 "[B") (P2 : Fa Z h0 o1 .byte 1 (up (fun _ => (.int (0 : Int32))) 0 (.int x0))) (P3 : Sta Z h0 "java/lang/String" "COMPACT_STRINGS" "Z" (.int x1)) (P4 : Fld Z h0 o0 "java/lang/String" "value" "[B" (.ref o1)) (P5 : Fld Z h0 o0 "java/lang/String" "coder" "B" (.int (0 : Int32))) (N_o0_o1 : o0 ≠ o1) (G_o0 : n0 ≤ o0) (G_o1 : n0 ≤ o1) (nz_x1 : ¬ x1 = (0 : Int32)) :
    Met true l Z n0 (⟨"com/example/escrow/escrow/LockRecord", "untaken", "(Ljava/lang/String;)Lcom/example/escrow/escrow/LockRecord;"⟩ : MethodName) prog_25_method_2_code 1 (some (.object "com/example/escrow/escrow/LockRecord")) ({ frames := 3, cells := 3, slots := 24, locals := 42 } : Room) #[(.ref o0)] h0 (fun v h => ∃ b2 : Addr, v = some (.ref b2) ∧ Keep h0 h [] ∧ h0.size ≤ b2 ∧ Exa Z h b2 "com/example/escrow/escrow/LockRecord" ∧ Sta Z h "java/lang/String" "COMPACT_STRINGS" "Z" (.int x1) ∧ Fld Z h b2 "com/example/escrow/escrow/LockRecord" "name" "Ljava/lang/String;" (.ref o0) ∧ Fld Z h b2 "com/example/escrow/escrow/LockRecord" "token" "J" (.long (0 : Int64)) ∧ Fld Z h b2 "com/example/escrow/escrow/LockRecord" "owner" "Ljava/lang/String;" .null ∧ Fld Z h b2 "com/example/escrow/escrow/LockRecord" "claim" "Lcom/example/escrow/escrow/Claim;" .null) := by
  refine Met.of (plainFor_of_name pn_3) #[.val (.ref o0)] (fun m => by first | (simp [entryFrame, mkF, argsToLocals, Value.category]; done) | rfl) ?_
  intro p e s m below meth c C
  refine Wk.newO C (hw _ (List.mem_of_getElem? (i := 26) rfl)) (hw _ (List.mem_of_getElem? (i := 27) rfl)) (hw _ (List.mem_of_getElem? (i := 24) rfl)) d4_0 (by decide) (by decide) ?_
  intro h1 b2 g3 E4 A5 D6
  have ne7 : o0 ≠ b2 := Nat.ne_of_lt (Nat.lt_of_lt_of_le P0.lt (Nat.le_of_eq g3.symm))
  have ne8 : o1 ≠ b2 := Nat.ne_of_lt (Nat.lt_of_lt_of_le P1.lt (Nat.le_of_eq g3.symm))
  have ge9 : n0 ≤ b2 := Nat.le_trans hsz (Nat.le_of_eq g3.symm)
  have gz10 : h0.size ≤ b2 := Nat.le_trans (Nat.le_refl h0.size) (Nat.le_of_eq g3.symm)
  have F11 : Exa Z h1 o0 "java/lang/String" := P0.ext E4
  have F12 : Exa Z h1 o1 "[B" := P1.ext E4
  have F13 : Fa Z h1 o1 .byte 1 (up (fun _ => (.int (0 : Int32))) 0 (.int x0)) := P2.ext E4
  have F14 : Sta Z h1 "java/lang/String" "COMPACT_STRINGS" "Z" (.int x1) := P3.ext E4
  have F15 : Fld Z h1 o0 "java/lang/String" "value" "[B" (.ref o1) := P4.ext E4
  have F16 : Fld Z h1 o0 "java/lang/String" "coder" "B" (.int (0 : Int32)) := P5.ext E4
  have sz17 : n0 ≤ h1.size := Nat.le_trans hsz E4.1
  have sy18 : h0.size ≤ h1.size := Nat.le_trans (Nat.le_refl h0.size) E4.1
  have K19 := (Keep.refl h0 []).ext E4
  have F20 : Fld Z h1 b2 "com/example/escrow/escrow/LockRecord" "name" "Ljava/lang/String;" .null := D6 (Or.inr (hw _ (List.mem_of_getElem? (i := 43) rfl))) (ty := (.object "java/lang/String")) (by decide)
  have F21 : Fld Z h1 b2 "com/example/escrow/escrow/LockRecord" "token" "J" (.long (0 : Int64)) := D6 (Or.inr (hw _ (List.mem_of_getElem? (i := 45) rfl))) (ty := .long) (by decide)
  have F22 : Fld Z h1 b2 "com/example/escrow/escrow/LockRecord" "owner" "Ljava/lang/String;" .null := D6 (Or.inr (hw _ (List.mem_of_getElem? (i := 47) rfl))) (ty := (.object "java/lang/String")) (by decide)
  have F23 : Fld Z h1 b2 "com/example/escrow/escrow/LockRecord" "claim" "Lcom/example/escrow/escrow/Claim;" .null := D6 (Or.inr (hw _ (List.mem_of_getElem? (i := 49) rfl))) (ty := (.object "com/example/escrow/escrow/Claim")) (by decide)
  show Wk _ p l e _ s m _ below meth c n0 _ h1 1 4 (mkF m 3 #[.val (.ref o0)] [(.ref b2)])
  refine Wk.st (g' := (mkF m 4 #[.val (.ref o0)] [(.ref b2), (.ref b2)])) (fun X t q => XS.dup X.here C.hx rfl (hb C.hby d4_3) rfl rfl q) ?_
  refine Wk.st (g' := (mkF m 5 #[.val (.ref o0)] [(.ref o0), (.ref b2), (.ref b2)])) (fun X t q => XS.aloadN X.here C.hx rfl (hb C.hby d4_4) rfl rfl q) ?_
  refine Wk.st (g' := (mkF m 6 #[.val (.ref o0)] [(.long (0 : Int64)), (.ref o0), (.ref b2), (.ref b2)])) (fun X t q => XS.lconst X.here C.hx rfl (hb C.hby d4_5) q) ?_
  refine Wk.st (g' := (mkF m 7 #[.val (.ref o0)] [.null, (.long (0 : Int64)), (.ref o0), (.ref b2), (.ref b2)])) (fun X t q => XS.aconstNull X.here C.hx rfl (hb C.hby d4_6) q) ?_
  refine Wk.st (g' := (mkF m 8 #[.val (.ref o0)] [.null, .null, (.long (0 : Int64)), (.ref o0), (.ref b2), (.ref b2)])) (fun X t q => XS.aconstNull X.here C.hx rfl (hb C.hby d4_7) q) ?_
  refine Wk.callI C (z := (⟨"com/example/escrow/escrow/LockRecord", "<init>", "(Ljava/lang/String;JLjava/lang/String;Lcom/example/escrow/escrow/Claim;)V"⟩ : MethodName)) rfl (hw _ (List.mem_of_getElem? (i := 28) rfl)) (hw _ (List.mem_of_getElem? (i := 29) rfl)) (hw _ (List.mem_of_getElem? (i := 24) rfl)) (hw _ (List.mem_of_getElem? (i := 30) rfl)) (by decide) (own_5_13 l Z a0 hw n0 h1 sz17 b2 o0 o1 x0 x1 F11 F12 F13 F14 F15 F16 A5 F20 F21 F22 F23 (Ne.symm ne7) (Ne.symm ne8) N_o0_o1 ge9 G_o0 G_o1 nz_x1) (w := 1) (by decide) (by decide) pd_3 rfl (rest := [(.ref b2)]) rfl rfl (Nat.le_of_eq rfl) (by decide) (by decide) d4_8 ?_
  rintro _ h25 ⟨rfl, K26, F27, F28, F29, F30, F31⟩
  show Wk _ p l e _ s m _ below meth c n0 _ h25 3 24 (mkF m 11 #[.val (.ref o0)] [(.ref b2)])
  have F32 : Exa Z h25 o0 "java/lang/String" := F11.keep K26
  have F33 : Exa Z h25 o1 "[B" := F12.keep K26
  have F34 : Fa Z h25 o1 .byte 1 (up (fun _ => (.int (0 : Int32))) 0 (.int x0)) := F13.keep K26 (nmS ne8 nm0)
  have F35 : Fld Z h25 o0 "java/lang/String" "value" "[B" (.ref o1) := F15.keep K26 (nmS ne7 nm0)
  have F36 : Fld Z h25 o0 "java/lang/String" "coder" "B" (.int (0 : Int32)) := F16.keep K26 (nmS ne7 nm0)
  have F37 : Exa Z h25 b2 "com/example/escrow/escrow/LockRecord" := A5.keep K26
  have sz38 : n0 ≤ h25.size := Nat.le_trans sz17 K26.1
  have K39 := K19.trans K26 (nvS (Or.inr gz10) nv0)
  have sy40 : h0.size ≤ h25.size := Nat.le_trans sy18 K26.1
  exact Wk.retV C (t := (.object "com/example/escrow/escrow/LockRecord")) rfl rfl (Or.inr (Or.inr (Or.inr (Or.inr ⟨rfl, rfl, rfl⟩)))) d4_11 (by decide) (by decide) ⟨b2, rfl, K39, gz10, F37, F27, F28, F29, F30, F31⟩
set_option maxRecDepth 65536 in
set_option maxHeartbeats 40000000 in
theorem own_8_16 (l : Launch) (Z : State) (a0 : Array Value) (hw : ∀ d ∈ tables_1, d.before a0 Z = true) (n0 : Nat) (h0 : Heap) (hsz : n0 ≤ h0.size) (o0 : Addr) (o1 : Addr) (o2 : Addr) (x0 : Int32) (x1 : Int32) (P0 : Exa Z h0 o1 "java/lang/String") (P1 : Exa Z h0 o2 "[B") (P2 : Fa Z h0 o2 .byte 1 (up (fun _ => (.int (0 : Int32))) 0 (.int x0))) (P3 : Fld Z h0 o1 "java/lang/String" "value" "[B" (.ref o2)) (P4 : Fld Z h0 o1 "java/lang/String" "coder" "B" (.int (0 : Int32))) (P5 : Exa Z h0 o0 "com/example/escrow/escrow/LockRecord") (P6 : Sta Z h0 "java/lang/String" "COMPACT_STRINGS" "Z" (.int x1)) (P7 : Fld Z h0 o0 "com/example/escrow/escrow/LockRecord" "name" "Ljava/lang/String;" (.ref o1)) (P8 : Fld Z h0 o0 "com/example/escrow/escrow/LockRecord" "token" "J" (.long (0 : Int64))) (P9 : Fld Z h0 o0 "com/example/escrow/escrow/LockRecord" "owner" "Ljava/lang/String;" .null) (P10 : Fld Z h0 o0 "com/example/escrow/escrow/LockRecord" "claim" "Lcom/example/escrow/escrow/Claim;" .null) (N_o0_o1 : o0 ≠ o1) (N_o0_o2 : o0 ≠ o2) (N_o1_o2 : o1 ≠ o2) (G_o0 : n0 ≤ o0) (G_o1 : n0 ≤ o1) (G_o2 : n0 ≤ o2) (nz_x1 : ¬ x1 = (0 : Int32)) :
    Met true l Z n0 (⟨"com/example/escrow/escrow/LockRecord", "name", "()Ljava/lang/String;"⟩ : MethodName) prog_25_method_16_code 1 (some (.object "java/lang/String")) ({ frames := 0, cells := 0, slots := 0, locals := 0 } : Room) #[(.ref o0)] h0 (fun v h => v = some (.ref o1) ∧ h0 = h) := by
  refine Met.of (plainFor_of_name pn_3) #[.val (.ref o0)] (fun m => by first | (simp [entryFrame, mkF, argsToLocals, Value.category]; done) | rfl) ?_
  intro p e s m below meth c C
  refine Wk.st (g' := (mkF m 1 #[.val (.ref o0)] [(.ref o0)])) (fun X t q => XS.aloadN X.here C.hx rfl (hb C.hby d8_0) rfl rfl q) ?_
  refine Wk.getF C (hw _ (List.mem_of_getElem? (i := 42) rfl)) Via.refl P7 d8_1 ?_
  show Wk _ p l e _ s m _ below meth c n0 _ h0 0 0 (mkF m 4 #[.val (.ref o0)] [(.ref o1)])
  exact Wk.retV C (t := (.object "java/lang/String")) rfl rfl (Or.inr (Or.inr (Or.inr (Or.inr ⟨rfl, rfl, rfl⟩)))) d8_4 (by decide) (by decide) ⟨rfl, rfl⟩
set_option maxRecDepth 65536 in
set_option maxHeartbeats 40000000 in
theorem own_9_17 (l : Launch) (Z : State) (a0 : Array Value) (hw : ∀ d ∈ tables_1, d.before a0 Z = true) (n0 : Nat) (h0 : Heap) (hsz : n0 ≤ h0.size) (o0 : Addr) (o1 : Addr) (x0 : Int32) (x1 : Int32) (P0 : Exa Z h0 o0 "java/lang/String") (P1 : Exa Z h0 o1 "[B") (P2 : Fa Z h0 o1 .byte 1 (up (fun _ => (.int (0 : Int32))) 0 (.int x0))) (P3 : Fld Z h0 o0 "java/lang/String" "value" "[B" (.ref o1)) (P4 : Fld Z h0 o0 "java/lang/String" "coder" "B" (.int (0 : Int32))) (P5 : Sta Z h0 "java/lang/String" "COMPACT_STRINGS" "Z" (.int x1)) (N_o0_o1 : o0 ≠ o1) (G_o0 : n0 ≤ o0) (G_o1 : n0 ≤ o1) (nz_x1 : ¬ x1 = (0 : Int32)) :
    Met true l Z n0 (⟨"java/lang/String", "equals", "(Ljava/lang/Object;)Z"⟩ : MethodName) jdk_42_method_66_code 3 (some .boolean) ({ frames := 0, cells := 0, slots := 0, locals := 0 } : Room) #[(.ref o0), (.ref o0)] h0 (fun v h => v = some (.int (1 : Int32)) ∧ h0 = h) := by
  refine Met.of (plainFor_of_name pn_0) #[.val (.ref o0), .val (.ref o0), .unset] (fun m => by first | (simp [entryFrame, mkF, argsToLocals, Value.category]; done) | rfl) ?_
  intro p e s m below meth c C
  refine Wk.st (g' := (mkF m 1 #[.val (.ref o0), .val (.ref o0), .unset] [(.ref o0)])) (fun X t q => XS.aloadN X.here C.hx rfl (hb C.hby d9_0) rfl rfl q) ?_
  refine Wk.st (g' := (mkF m 2 #[.val (.ref o0), .val (.ref o0), .unset] [(.ref o0), (.ref o0)])) (fun X t q => XS.aloadN X.here C.hx rfl (hb C.hby d9_1) rfl rfl q) ?_
  refine Wk.st (g' := (mkF m 5 #[.val (.ref o0), .val (.ref o0), .unset] [])) (fun X t q => Jvm.RoadKit.acmp (g := (mkF m 2 #[.val (.ref o0), .val (.ref o0), .unset] [(.ref o0), (.ref o0)])) X C.hx rfl rfl rfl (pc0 := 2) (pc' := 5) (same := true) rfl (hb C.hby d9_2) rfl (decide_eq_true (congrArg Value.ref rfl)) (by decide) (by decide) q) ?_
  refine Wk.st (g' := (mkF m 6 #[.val (.ref o0), .val (.ref o0), .unset] [(.int (1 : Int32))])) (fun X t q => XS.iconst X.here C.hx rfl (hb C.hby d9_5) q) ?_
  exact Wk.retV C (t := .boolean) rfl rfl (Or.inl ⟨rfl, by simp, _, rfl⟩) d9_6 (by decide) (by decide) ⟨rfl, rfl⟩
set_option maxRecDepth 65536 in
set_option maxHeartbeats 40000000 in
theorem own_10_18 (l : Launch) (Z : State) (a0 : Array Value) (hw : ∀ d ∈ tables_1, d.before a0 Z = true) (n0 : Nat) (h0 : Heap) (hsz : n0 ≤ h0.size) (o0 : Addr) (o1 : Addr) (o2 : Addr) (x0 : Int32) (x1 : Int32) (P0 : Exa Z h0 o1 "java/lang/String") (P1 : Exa Z h0 o2 "[B") (P2 : Fa Z h0 o2 .byte 1 (up (fun _ => (.int (0 : Int32))) 0 (.int x0))) (P3 : Fld Z h0 o1 "java/lang/String" "value" "[B" (.ref o2)) (P4 : Fld Z h0 o1 "java/lang/String" "coder" "B" (.int (0 : Int32))) (P5 : Exa Z h0 o0 "com/example/escrow/escrow/LockRecord") (P6 : Sta Z h0 "java/lang/String" "COMPACT_STRINGS" "Z" (.int x1)) (P7 : Fld Z h0 o0 "com/example/escrow/escrow/LockRecord" "name" "Ljava/lang/String;" (.ref o1)) (P8 : Fld Z h0 o0 "com/example/escrow/escrow/LockRecord" "token" "J" (.long (0 : Int64))) (P9 : Fld Z h0 o0 "com/example/escrow/escrow/LockRecord" "owner" "Ljava/lang/String;" .null) (P10 : Fld Z h0 o0 "com/example/escrow/escrow/LockRecord" "claim" "Lcom/example/escrow/escrow/Claim;" .null) (N_o0_o1 : o0 ≠ o1) (N_o0_o2 : o0 ≠ o2) (N_o1_o2 : o1 ≠ o2) (G_o0 : n0 ≤ o0) (G_o1 : n0 ≤ o1) (G_o2 : n0 ≤ o2) (nz_x1 : ¬ x1 = (0 : Int32)) :
    Met true l Z n0 (⟨"com/example/escrow/escrow/LockRecord", "token", "()J"⟩ : MethodName) prog_25_method_17_code 1 (some .long) ({ frames := 0, cells := 0, slots := 0, locals := 0 } : Room) #[(.ref o0)] h0 (fun v h => v = some (.long (0 : Int64)) ∧ h0 = h) := by
  refine Met.of (plainFor_of_name pn_3) #[.val (.ref o0)] (fun m => by first | (simp [entryFrame, mkF, argsToLocals, Value.category]; done) | rfl) ?_
  intro p e s m below meth c C
  refine Wk.st (g' := (mkF m 1 #[.val (.ref o0)] [(.ref o0)])) (fun X t q => XS.aloadN X.here C.hx rfl (hb C.hby d10_0) rfl rfl q) ?_
  refine Wk.getF C (hw _ (List.mem_of_getElem? (i := 44) rfl)) Via.refl P8 d10_1 ?_
  show Wk _ p l e _ s m _ below meth c n0 _ h0 0 0 (mkF m 4 #[.val (.ref o0)] [(.long (0 : Int64))])
  exact Wk.retV C (t := .long) rfl rfl (Or.inr (Or.inl ⟨rfl, rfl, _, rfl⟩)) d10_4 (by decide) (by decide) ⟨rfl, rfl⟩
set_option maxRecDepth 65536 in
set_option maxHeartbeats 40000000 in
theorem own_11_19 (l : Launch) (Z : State) (a0 : Array Value) (hw : ∀ d ∈ tables_1, d.before a0 Z = true) (n0 : Nat) (h0 : Heap) (hsz : n0 ≤ h0.size) (o0 : Addr) (o1 : Addr) (o2 : Addr) (x0 : Int32) (x1 : Int32) (P0 : Exa Z h0 o1 "java/lang/String") (P1 : Exa Z h0 o2 "[B") (P2 : Fa Z h0 o2 .byte 1 (up (fun _ => (.int (0 : Int32))) 0 (.int x0))) (P3 : Fld Z h0 o1 "java/lang/String" "value" "[B" (.ref o2)) (P4 : Fld Z h0 o1 "java/lang/String" "coder" "B" (.int (0 : Int32))) (P5 : Exa Z h0 o0 "com/example/escrow/escrow/LockRecord") (P6 : Sta Z h0 "java/lang/String" "COMPACT_STRINGS" "Z" (.int x1)) (P7 : Fld Z h0 o0 "com/example/escrow/escrow/LockRecord" "name" "Ljava/lang/String;" (.ref o1)) (P8 : Fld Z h0 o0 "com/example/escrow/escrow/LockRecord" "token" "J" (.long (0 : Int64))) (P9 : Fld Z h0 o0 "com/example/escrow/escrow/LockRecord" "owner" "Ljava/lang/String;" .null) (P10 : Fld Z h0 o0 "com/example/escrow/escrow/LockRecord" "claim" "Lcom/example/escrow/escrow/Claim;" .null) (N_o0_o1 : o0 ≠ o1) (N_o0_o2 : o0 ≠ o2) (N_o1_o2 : o1 ≠ o2) (G_o0 : n0 ≤ o0) (G_o1 : n0 ≤ o1) (G_o2 : n0 ≤ o2) (nz_x1 : ¬ x1 = (0 : Int32)) :
    Met true l Z n0 (⟨"com/example/escrow/escrow/LockRecord", "owner", "()Ljava/lang/String;"⟩ : MethodName) prog_25_method_18_code 1 (some (.object "java/lang/String")) ({ frames := 0, cells := 0, slots := 0, locals := 0 } : Room) #[(.ref o0)] h0 (fun v h => v = some .null ∧ h0 = h) := by
  refine Met.of (plainFor_of_name pn_3) #[.val (.ref o0)] (fun m => by first | (simp [entryFrame, mkF, argsToLocals, Value.category]; done) | rfl) ?_
  intro p e s m below meth c C
  refine Wk.st (g' := (mkF m 1 #[.val (.ref o0)] [(.ref o0)])) (fun X t q => XS.aloadN X.here C.hx rfl (hb C.hby d11_0) rfl rfl q) ?_
  refine Wk.getF C (hw _ (List.mem_of_getElem? (i := 46) rfl)) Via.refl P9 d11_1 ?_
  show Wk _ p l e _ s m _ below meth c n0 _ h0 0 0 (mkF m 4 #[.val (.ref o0)] [.null])
  exact Wk.retV C (t := (.object "java/lang/String")) rfl rfl (Or.inr (Or.inr (Or.inr (Or.inr ⟨rfl, rfl, rfl⟩)))) d11_4 (by decide) (by decide) ⟨rfl, rfl⟩
set_option maxRecDepth 65536 in
set_option maxHeartbeats 40000000 in
theorem own_12_20 (l : Launch) (Z : State) (a0 : Array Value) (hw : ∀ d ∈ tables_1, d.before a0 Z = true) (n0 : Nat) (h0 : Heap) (hsz : n0 ≤ h0.size) (o0 : Addr) (o1 : Addr) (o2 : Addr) (x0 : Int32) (x1 : Int32) (P0 : Exa Z h0 o1 "java/lang/String") (P1 : Exa Z h0 o2 "[B") (P2 : Fa Z h0 o2 .byte 1 (up (fun _ => (.int (0 : Int32))) 0 (.int x0))) (P3 : Fld Z h0 o1 "java/lang/String" "value" "[B" (.ref o2)) (P4 : Fld Z h0 o1 "java/lang/String" "coder" "B" (.int (0 : Int32))) (P5 : Exa Z h0 o0 "com/example/escrow/escrow/LockRecord") (P6 : Sta Z h0 "java/lang/String" "COMPACT_STRINGS" "Z" (.int x1)) (P7 : Fld Z h0 o0 "com/example/escrow/escrow/LockRecord" "name" "Ljava/lang/String;" (.ref o1)) (P8 : Fld Z h0 o0 "com/example/escrow/escrow/LockRecord" "token" "J" (.long (0 : Int64))) (P9 : Fld Z h0 o0 "com/example/escrow/escrow/LockRecord" "owner" "Ljava/lang/String;" .null) (P10 : Fld Z h0 o0 "com/example/escrow/escrow/LockRecord" "claim" "Lcom/example/escrow/escrow/Claim;" .null) (N_o0_o1 : o0 ≠ o1) (N_o0_o2 : o0 ≠ o2) (N_o1_o2 : o1 ≠ o2) (G_o0 : n0 ≤ o0) (G_o1 : n0 ≤ o1) (G_o2 : n0 ≤ o2) (nz_x1 : ¬ x1 = (0 : Int32)) :
    Met true l Z n0 (⟨"com/example/escrow/escrow/LockRecord", "claim", "()Lcom/example/escrow/escrow/Claim;"⟩ : MethodName) prog_25_method_19_code 1 (some (.object "com/example/escrow/escrow/Claim")) ({ frames := 0, cells := 0, slots := 0, locals := 0 } : Room) #[(.ref o0)] h0 (fun v h => v = some .null ∧ h0 = h) := by
  refine Met.of (plainFor_of_name pn_3) #[.val (.ref o0)] (fun m => by first | (simp [entryFrame, mkF, argsToLocals, Value.category]; done) | rfl) ?_
  intro p e s m below meth c C
  refine Wk.st (g' := (mkF m 1 #[.val (.ref o0)] [(.ref o0)])) (fun X t q => XS.aloadN X.here C.hx rfl (hb C.hby d12_0) rfl rfl q) ?_
  refine Wk.getF C (hw _ (List.mem_of_getElem? (i := 48) rfl)) Via.refl P10 d12_1 ?_
  show Wk _ p l e _ s m _ below meth c n0 _ h0 0 0 (mkF m 4 #[.val (.ref o0)] [.null])
  exact Wk.retV C (t := (.object "com/example/escrow/escrow/Claim")) rfl rfl (Or.inr (Or.inr (Or.inr (Or.inr ⟨rfl, rfl, rfl⟩)))) d12_4 (by decide) (by decide) ⟨rfl, rfl⟩
theorem d14_0 : decode jdk_52_method_21_code 0 = .ok (.iconst 0, 1) := by decide +kernel
theorem d14_1 : decode jdk_52_method_21_code 1 = .ok (.istore 5, 2) := by decide +kernel
theorem d14_3 : decode jdk_52_method_21_code 3 = .ok (.iload 5, 2) := by decide +kernel
theorem d14_5 : decode jdk_52_method_21_code 5 = .ok (.iload 4, 2) := by decide +kernel
theorem d14_7 : decode jdk_52_method_21_code 7 = .ok (.if_icmp .ge 37, 3) := by decide +kernel
theorem d14_10 : decode jdk_52_method_21_code 10 = .ok (.aload_n 0, 1) := by decide +kernel
theorem d14_11 : decode jdk_52_method_21_code 11 = .ok (.iload_n 1, 1) := by decide +kernel
theorem d14_12 : decode jdk_52_method_21_code 12 = .ok (.caload, 1) := by decide +kernel
theorem d14_13 : decode jdk_52_method_21_code 13 = .ok (.istore 6, 2) := by decide +kernel
theorem d14_15 : decode jdk_52_method_21_code 15 = .ok (.iload 6, 2) := by decide +kernel
theorem d14_17 : decode jdk_52_method_21_code 17 = .ok (.sipush 255, 3) := by decide +kernel
theorem d14_20 : decode jdk_52_method_21_code 20 = .ok (.if_icmp .le 6, 3) := by decide +kernel
theorem d14_23 : decode jdk_52_method_21_code 23 = .ok (.iload 5, 2) := by decide +kernel
theorem d14_25 : decode jdk_52_method_21_code 25 = .ok (.ireturn, 1) := by decide +kernel
theorem d14_26 : decode jdk_52_method_21_code 26 = .ok (.aload_n 2, 1) := by decide +kernel
theorem d14_27 : decode jdk_52_method_21_code 27 = .ok (.iload_n 3, 1) := by decide +kernel
theorem d14_28 : decode jdk_52_method_21_code 28 = .ok (.iload 6, 2) := by decide +kernel
theorem d14_30 : decode jdk_52_method_21_code 30 = .ok (.i2b, 1) := by decide +kernel
theorem d14_31 : decode jdk_52_method_21_code 31 = .ok (.bastore, 1) := by decide +kernel
theorem d14_32 : decode jdk_52_method_21_code 32 = .ok (.iinc 1 1, 3) := by decide +kernel
theorem d14_35 : decode jdk_52_method_21_code 35 = .ok (.iinc 3 1, 3) := by decide +kernel
theorem d14_38 : decode jdk_52_method_21_code 38 = .ok (.iinc 5 1, 3) := by decide +kernel
theorem d14_41 : decode jdk_52_method_21_code 41 = .ok (.goto (-38), 3) := by decide +kernel
theorem d14_44 : decode jdk_52_method_21_code 44 = .ok (.iload 4, 2) := by decide +kernel
theorem d14_46 : decode jdk_52_method_21_code 46 = .ok (.ireturn, 1) := by decide +kernel
set_option maxRecDepth 65536 in
set_option maxHeartbeats 40000000 in
theorem own_14_21 (l : Launch) (Z : State) (a0 : Array Value) (hw : ∀ d ∈ tables_1, d.before a0 Z = true) (n0 : Nat) (h0 : Heap) (hsz : n0 ≤ h0.size) (o0 : Addr) (o1 : Addr) (x0 : Int32) (x1 : Int32) (x2 : Int32) (P0 : Sta Z h0 "java/lang/String" "COMPACT_STRINGS" "Z" (.int x0)) (P1 : Exa Z h0 o0 "[C") (P2 : Fa Z h0 o0 .char 2 (up (up (fun _ => (.int (0 : Int32))) 0 (.int x1)) 1 (.int x2))) (P3 : Exa Z h0 o1 "[B") (P4 : Fa Z h0 o1 .byte 2 (fun _ => (.int (0 : Int32)))) (N_o0_o1 : o0 ≠ o1) (G_o0 : n0 ≤ o0) (G_o1 : n0 ≤ o1) (lat_x1 : ¬ (255 : Int32) < x1) (lat_x2 : ¬ (255 : Int32) < x2) (nz_x0 : ¬ x0 = (0 : Int32)) :
    Met true l Z n0 (⟨"java/lang/StringUTF16", "compress", "([CI[BII)I"⟩ : MethodName) jdk_52_method_21_code 7 (some .int) ({ frames := 0, cells := 0, slots := 0, locals := 0 } : Room) #[(.ref o0), (.int (0 : Int32)), (.ref o1), (.int (0 : Int32)), (.int (2 : Int32))] h0 (fun v h => v = some (.int (2 : Int32)) ∧ Keep h0 h [o1] ∧ Sta Z h "java/lang/String" "COMPACT_STRINGS" "Z" (.int x0) ∧ Fa Z h o1 .byte 2 (up (up (fun _ => (.int (0 : Int32))) 0 (.int (nar .byte (x1.toInt8.toInt32)))) 1 (.int (nar .byte (x2.toInt8.toInt32))))) := by
  refine Met.of (plainFor_of_name pn_5) #[.val (.ref o0), .val (.int (0 : Int32)), .val (.ref o1), .val (.int (0 : Int32)), .val (.int (2 : Int32)), .unset, .unset] (fun m => by first | (simp [entryFrame, mkF, argsToLocals, Value.category]; done) | rfl) ?_
  intro p e s m below meth c C
  refine Wk.st (g' := (mkF m 1 #[.val (.ref o0), .val (.int (0 : Int32)), .val (.ref o1), .val (.int (0 : Int32)), .val (.int (2 : Int32)), .unset, .unset] [(.int (0 : Int32))])) (fun X t q => XS.iconst X.here C.hx rfl (hb C.hby d14_0) q) ?_
  refine Wk.st (g' := (mkF m 3 #[.val (.ref o0), .val (.int (0 : Int32)), .val (.ref o1), .val (.int (0 : Int32)), .val (.int (2 : Int32)), .val (.int (0 : Int32)), .unset] [])) (fun X t q => XS.istore X.here C.hx rfl (hb C.hby d14_1) rfl (l' := #[.val (.ref o0), .val (.int (0 : Int32)), .val (.ref o1), .val (.int (0 : Int32)), .val (.int (2 : Int32)), .val (.int (0 : Int32)), .unset]) rfl q) ?_
  refine Wk.st (g' := (mkF m 5 #[.val (.ref o0), .val (.int (0 : Int32)), .val (.ref o1), .val (.int (0 : Int32)), .val (.int (2 : Int32)), .val (.int (0 : Int32)), .unset] [(.int (0 : Int32))])) (fun X t q => XS.iload X.here C.hx rfl (hb C.hby d14_3) rfl q) ?_
  refine Wk.st (g' := (mkF m 7 #[.val (.ref o0), .val (.int (0 : Int32)), .val (.ref o1), .val (.int (0 : Int32)), .val (.int (2 : Int32)), .val (.int (0 : Int32)), .unset] [(.int (2 : Int32)), (.int (0 : Int32))])) (fun X t q => XS.iload X.here C.hx rfl (hb C.hby d14_5) rfl q) ?_
  refine Wk.st (g' := (mkF m 10 #[.val (.ref o0), .val (.int (0 : Int32)), .val (.ref o1), .val (.int (0 : Int32)), .val (.int (2 : Int32)), .val (.int (0 : Int32)), .unset] [])) (fun X t q => XS.icmpNo X.here C.hx rfl (hb C.hby d14_7) rfl (XT.ii_ge_f (by decide)) q) ?_
  refine Wk.st (g' := (mkF m 11 #[.val (.ref o0), .val (.int (0 : Int32)), .val (.ref o1), .val (.int (0 : Int32)), .val (.int (2 : Int32)), .val (.int (0 : Int32)), .unset] [(.ref o0)])) (fun X t q => XS.aloadN X.here C.hx rfl (hb C.hby d14_10) rfl rfl q) ?_
  refine Wk.st (g' := (mkF m 12 #[.val (.ref o0), .val (.int (0 : Int32)), .val (.ref o1), .val (.int (0 : Int32)), .val (.int (2 : Int32)), .val (.int (0 : Int32)), .unset] [(.int (0 : Int32)), (.ref o0)])) (fun X t q => XS.iloadN X.here C.hx rfl (hb C.hby d14_11) rfl q) ?_
  refine Wk.fLdC C P2 (i := 0) (by decide) (by decide) (by decide) (v := (.int x1)) (by simp [up]) d14_12 ?_
  show Wk _ p l e _ s m _ below meth c n0 _ h0 0 0 (mkF m 13 #[.val (.ref o0), .val (.int (0 : Int32)), .val (.ref o1), .val (.int (0 : Int32)), .val (.int (2 : Int32)), .val (.int (0 : Int32)), .unset] [(.int x1)])
  refine Wk.st (g' := (mkF m 15 #[.val (.ref o0), .val (.int (0 : Int32)), .val (.ref o1), .val (.int (0 : Int32)), .val (.int (2 : Int32)), .val (.int (0 : Int32)), .val (.int x1)] [])) (fun X t q => XS.istore X.here C.hx rfl (hb C.hby d14_13) rfl (l' := #[.val (.ref o0), .val (.int (0 : Int32)), .val (.ref o1), .val (.int (0 : Int32)), .val (.int (2 : Int32)), .val (.int (0 : Int32)), .val (.int x1)]) rfl q) ?_
  refine Wk.st (g' := (mkF m 17 #[.val (.ref o0), .val (.int (0 : Int32)), .val (.ref o1), .val (.int (0 : Int32)), .val (.int (2 : Int32)), .val (.int (0 : Int32)), .val (.int x1)] [(.int x1)])) (fun X t q => XS.iload X.here C.hx rfl (hb C.hby d14_15) rfl q) ?_
  refine Wk.st (g' := (mkF m 20 #[.val (.ref o0), .val (.int (0 : Int32)), .val (.ref o1), .val (.int (0 : Int32)), .val (.int (2 : Int32)), .val (.int (0 : Int32)), .val (.int x1)] [(.int (255 : Int32)), (.int x1)])) (fun X t q => XS.sipush X.here C.hx rfl (hb C.hby d14_17) q) ?_
  refine Wk.st (g' := (mkF m 26 #[.val (.ref o0), .val (.int (0 : Int32)), .val (.ref o1), .val (.int (0 : Int32)), .val (.int (2 : Int32)), .val (.int (0 : Int32)), .val (.int x1)] [])) (fun X t q => XS.icmpYes X.here C.hx rfl (pc0 := 20) (pc' := 26) rfl (hb C.hby d14_20) rfl (XT.ii_le_t lat_x1) (by decide) (by decide) q) ?_
  refine Wk.st (g' := (mkF m 27 #[.val (.ref o0), .val (.int (0 : Int32)), .val (.ref o1), .val (.int (0 : Int32)), .val (.int (2 : Int32)), .val (.int (0 : Int32)), .val (.int x1)] [(.ref o1)])) (fun X t q => XS.aloadN X.here C.hx rfl (hb C.hby d14_26) rfl rfl q) ?_
  refine Wk.st (g' := (mkF m 28 #[.val (.ref o0), .val (.int (0 : Int32)), .val (.ref o1), .val (.int (0 : Int32)), .val (.int (2 : Int32)), .val (.int (0 : Int32)), .val (.int x1)] [(.int (0 : Int32)), (.ref o1)])) (fun X t q => XS.iloadN X.here C.hx rfl (hb C.hby d14_27) rfl q) ?_
  refine Wk.st (g' := (mkF m 30 #[.val (.ref o0), .val (.int (0 : Int32)), .val (.ref o1), .val (.int (0 : Int32)), .val (.int (2 : Int32)), .val (.int (0 : Int32)), .val (.int x1)] [(.int x1), (.int (0 : Int32)), (.ref o1)])) (fun X t q => XS.iload X.here C.hx rfl (hb C.hby d14_28) rfl q) ?_
  refine Wk.st (g' := (mkF m 31 #[.val (.ref o0), .val (.int (0 : Int32)), .val (.ref o1), .val (.int (0 : Int32)), .val (.int (2 : Int32)), .val (.int (0 : Int32)), .val (.int x1)] [(.int (x1.toInt8.toInt32)), (.int (0 : Int32)), (.ref o1)])) (fun X t q => XS.i2b X.here C.hx rfl (hb C.hby d14_30) rfl q) ?_
  refine Wk.fStB C P4 (x' := (nar .byte (x1.toInt8.toInt32))) rfl (i := 0) (by decide) (by decide) (by decide) G_o1 d14_31 ?_
  intro h1 W2 F3
  have F4 : Sta Z h1 "java/lang/String" "COMPACT_STRINGS" "Z" (.int x0) := P0.wr W2
  have F5 : Exa Z h1 o0 "[C" := P1.wr W2
  have F6 : Fa Z h1 o0 .char 2 (up (up (fun _ => (.int (0 : Int32))) 0 (.int x1)) 1 (.int x2)) := P2.other W2 N_o0_o1
  have F7 : Exa Z h1 o1 "[B" := P3.wr W2
  have sz8 : n0 ≤ h1.size := Nat.le_trans hsz (Nat.le_of_eq W2.size.symm)
  have sy9 : h0.size ≤ h1.size := Nat.le_trans (Nat.le_refl h0.size) (Nat.le_of_eq W2.size.symm)
  have K10 := (Keep.refl h0 [o1]).wr W2 (Or.inl (by simp))
  show Wk _ p l e _ s m _ below meth c n0 _ h1 0 0 (mkF m 32 #[.val (.ref o0), .val (.int (0 : Int32)), .val (.ref o1), .val (.int (0 : Int32)), .val (.int (2 : Int32)), .val (.int (0 : Int32)), .val (.int x1)] [])
  refine Wk.st (g' := (mkF m 35 #[.val (.ref o0), .val (.int (1 : Int32)), .val (.ref o1), .val (.int (0 : Int32)), .val (.int (2 : Int32)), .val (.int (0 : Int32)), .val (.int x1)] [])) (fun X t q => XS.iinc X.here C.hx rfl (hb C.hby d14_32) rfl (l' := #[.val (.ref o0), .val (.int (1 : Int32)), .val (.ref o1), .val (.int (0 : Int32)), .val (.int (2 : Int32)), .val (.int (0 : Int32)), .val (.int x1)]) rfl q) ?_
  refine Wk.st (g' := (mkF m 38 #[.val (.ref o0), .val (.int (1 : Int32)), .val (.ref o1), .val (.int (1 : Int32)), .val (.int (2 : Int32)), .val (.int (0 : Int32)), .val (.int x1)] [])) (fun X t q => XS.iinc X.here C.hx rfl (hb C.hby d14_35) rfl (l' := #[.val (.ref o0), .val (.int (1 : Int32)), .val (.ref o1), .val (.int (1 : Int32)), .val (.int (2 : Int32)), .val (.int (0 : Int32)), .val (.int x1)]) rfl q) ?_
  refine Wk.st (g' := (mkF m 41 #[.val (.ref o0), .val (.int (1 : Int32)), .val (.ref o1), .val (.int (1 : Int32)), .val (.int (2 : Int32)), .val (.int (1 : Int32)), .val (.int x1)] [])) (fun X t q => XS.iinc X.here C.hx rfl (hb C.hby d14_38) rfl (l' := #[.val (.ref o0), .val (.int (1 : Int32)), .val (.ref o1), .val (.int (1 : Int32)), .val (.int (2 : Int32)), .val (.int (1 : Int32)), .val (.int x1)]) rfl q) ?_
  refine Wk.st (g' := (mkF m 3 #[.val (.ref o0), .val (.int (1 : Int32)), .val (.ref o1), .val (.int (1 : Int32)), .val (.int (2 : Int32)), .val (.int (1 : Int32)), .val (.int x1)] [])) (fun X t q => XS.goto X.here C.hx rfl (pc0 := 41) (pc' := 3) rfl (hb C.hby d14_41) (by decide) (by decide) q) ?_
  refine Wk.st (g' := (mkF m 5 #[.val (.ref o0), .val (.int (1 : Int32)), .val (.ref o1), .val (.int (1 : Int32)), .val (.int (2 : Int32)), .val (.int (1 : Int32)), .val (.int x1)] [(.int (1 : Int32))])) (fun X t q => XS.iload X.here C.hx rfl (hb C.hby d14_3) rfl q) ?_
  refine Wk.st (g' := (mkF m 7 #[.val (.ref o0), .val (.int (1 : Int32)), .val (.ref o1), .val (.int (1 : Int32)), .val (.int (2 : Int32)), .val (.int (1 : Int32)), .val (.int x1)] [(.int (2 : Int32)), (.int (1 : Int32))])) (fun X t q => XS.iload X.here C.hx rfl (hb C.hby d14_5) rfl q) ?_
  refine Wk.st (g' := (mkF m 10 #[.val (.ref o0), .val (.int (1 : Int32)), .val (.ref o1), .val (.int (1 : Int32)), .val (.int (2 : Int32)), .val (.int (1 : Int32)), .val (.int x1)] [])) (fun X t q => XS.icmpNo X.here C.hx rfl (hb C.hby d14_7) rfl (XT.ii_ge_f (by decide)) q) ?_
  refine Wk.st (g' := (mkF m 11 #[.val (.ref o0), .val (.int (1 : Int32)), .val (.ref o1), .val (.int (1 : Int32)), .val (.int (2 : Int32)), .val (.int (1 : Int32)), .val (.int x1)] [(.ref o0)])) (fun X t q => XS.aloadN X.here C.hx rfl (hb C.hby d14_10) rfl rfl q) ?_
  refine Wk.st (g' := (mkF m 12 #[.val (.ref o0), .val (.int (1 : Int32)), .val (.ref o1), .val (.int (1 : Int32)), .val (.int (2 : Int32)), .val (.int (1 : Int32)), .val (.int x1)] [(.int (1 : Int32)), (.ref o0)])) (fun X t q => XS.iloadN X.here C.hx rfl (hb C.hby d14_11) rfl q) ?_
  refine Wk.fLdC C F6 (i := 1) (by decide) (by decide) (by decide) (v := (.int x2)) (by simp [up]) d14_12 ?_
  show Wk _ p l e _ s m _ below meth c n0 _ h1 0 0 (mkF m 13 #[.val (.ref o0), .val (.int (1 : Int32)), .val (.ref o1), .val (.int (1 : Int32)), .val (.int (2 : Int32)), .val (.int (1 : Int32)), .val (.int x1)] [(.int x2)])
  refine Wk.st (g' := (mkF m 15 #[.val (.ref o0), .val (.int (1 : Int32)), .val (.ref o1), .val (.int (1 : Int32)), .val (.int (2 : Int32)), .val (.int (1 : Int32)), .val (.int x2)] [])) (fun X t q => XS.istore X.here C.hx rfl (hb C.hby d14_13) rfl (l' := #[.val (.ref o0), .val (.int (1 : Int32)), .val (.ref o1), .val (.int (1 : Int32)), .val (.int (2 : Int32)), .val (.int (1 : Int32)), .val (.int x2)]) rfl q) ?_
  refine Wk.st (g' := (mkF m 17 #[.val (.ref o0), .val (.int (1 : Int32)), .val (.ref o1), .val (.int (1 : Int32)), .val (.int (2 : Int32)), .val (.int (1 : Int32)), .val (.int x2)] [(.int x2)])) (fun X t q => XS.iload X.here C.hx rfl (hb C.hby d14_15) rfl q) ?_
  refine Wk.st (g' := (mkF m 20 #[.val (.ref o0), .val (.int (1 : Int32)), .val (.ref o1), .val (.int (1 : Int32)), .val (.int (2 : Int32)), .val (.int (1 : Int32)), .val (.int x2)] [(.int (255 : Int32)), (.int x2)])) (fun X t q => XS.sipush X.here C.hx rfl (hb C.hby d14_17) q) ?_
  refine Wk.st (g' := (mkF m 26 #[.val (.ref o0), .val (.int (1 : Int32)), .val (.ref o1), .val (.int (1 : Int32)), .val (.int (2 : Int32)), .val (.int (1 : Int32)), .val (.int x2)] [])) (fun X t q => XS.icmpYes X.here C.hx rfl (pc0 := 20) (pc' := 26) rfl (hb C.hby d14_20) rfl (XT.ii_le_t lat_x2) (by decide) (by decide) q) ?_
  refine Wk.st (g' := (mkF m 27 #[.val (.ref o0), .val (.int (1 : Int32)), .val (.ref o1), .val (.int (1 : Int32)), .val (.int (2 : Int32)), .val (.int (1 : Int32)), .val (.int x2)] [(.ref o1)])) (fun X t q => XS.aloadN X.here C.hx rfl (hb C.hby d14_26) rfl rfl q) ?_
  refine Wk.st (g' := (mkF m 28 #[.val (.ref o0), .val (.int (1 : Int32)), .val (.ref o1), .val (.int (1 : Int32)), .val (.int (2 : Int32)), .val (.int (1 : Int32)), .val (.int x2)] [(.int (1 : Int32)), (.ref o1)])) (fun X t q => XS.iloadN X.here C.hx rfl (hb C.hby d14_27) rfl q) ?_
  refine Wk.st (g' := (mkF m 30 #[.val (.ref o0), .val (.int (1 : Int32)), .val (.ref o1), .val (.int (1 : Int32)), .val (.int (2 : Int32)), .val (.int (1 : Int32)), .val (.int x2)] [(.int x2), (.int (1 : Int32)), (.ref o1)])) (fun X t q => XS.iload X.here C.hx rfl (hb C.hby d14_28) rfl q) ?_
  refine Wk.st (g' := (mkF m 31 #[.val (.ref o0), .val (.int (1 : Int32)), .val (.ref o1), .val (.int (1 : Int32)), .val (.int (2 : Int32)), .val (.int (1 : Int32)), .val (.int x2)] [(.int (x2.toInt8.toInt32)), (.int (1 : Int32)), (.ref o1)])) (fun X t q => XS.i2b X.here C.hx rfl (hb C.hby d14_30) rfl q) ?_
  refine Wk.fStB C F3 (x' := (nar .byte (x2.toInt8.toInt32))) rfl (i := 1) (by decide) (by decide) (by decide) G_o1 d14_31 ?_
  intro h11 W12 F13
  have F14 : Sta Z h11 "java/lang/String" "COMPACT_STRINGS" "Z" (.int x0) := F4.wr W12
  have F15 : Exa Z h11 o0 "[C" := F5.wr W12
  have F16 : Fa Z h11 o0 .char 2 (up (up (fun _ => (.int (0 : Int32))) 0 (.int x1)) 1 (.int x2)) := F6.other W12 N_o0_o1
  have F17 : Exa Z h11 o1 "[B" := F7.wr W12
  have sz18 : n0 ≤ h11.size := Nat.le_trans sz8 (Nat.le_of_eq W12.size.symm)
  have sy19 : h0.size ≤ h11.size := Nat.le_trans sy9 (Nat.le_of_eq W12.size.symm)
  have K20 := K10.wr W12 (Or.inl (by simp))
  show Wk _ p l e _ s m _ below meth c n0 _ h11 0 0 (mkF m 32 #[.val (.ref o0), .val (.int (1 : Int32)), .val (.ref o1), .val (.int (1 : Int32)), .val (.int (2 : Int32)), .val (.int (1 : Int32)), .val (.int x2)] [])
  refine Wk.st (g' := (mkF m 35 #[.val (.ref o0), .val (.int (2 : Int32)), .val (.ref o1), .val (.int (1 : Int32)), .val (.int (2 : Int32)), .val (.int (1 : Int32)), .val (.int x2)] [])) (fun X t q => XS.iinc X.here C.hx rfl (hb C.hby d14_32) rfl (l' := #[.val (.ref o0), .val (.int (2 : Int32)), .val (.ref o1), .val (.int (1 : Int32)), .val (.int (2 : Int32)), .val (.int (1 : Int32)), .val (.int x2)]) rfl q) ?_
  refine Wk.st (g' := (mkF m 38 #[.val (.ref o0), .val (.int (2 : Int32)), .val (.ref o1), .val (.int (2 : Int32)), .val (.int (2 : Int32)), .val (.int (1 : Int32)), .val (.int x2)] [])) (fun X t q => XS.iinc X.here C.hx rfl (hb C.hby d14_35) rfl (l' := #[.val (.ref o0), .val (.int (2 : Int32)), .val (.ref o1), .val (.int (2 : Int32)), .val (.int (2 : Int32)), .val (.int (1 : Int32)), .val (.int x2)]) rfl q) ?_
  refine Wk.st (g' := (mkF m 41 #[.val (.ref o0), .val (.int (2 : Int32)), .val (.ref o1), .val (.int (2 : Int32)), .val (.int (2 : Int32)), .val (.int (2 : Int32)), .val (.int x2)] [])) (fun X t q => XS.iinc X.here C.hx rfl (hb C.hby d14_38) rfl (l' := #[.val (.ref o0), .val (.int (2 : Int32)), .val (.ref o1), .val (.int (2 : Int32)), .val (.int (2 : Int32)), .val (.int (2 : Int32)), .val (.int x2)]) rfl q) ?_
  refine Wk.st (g' := (mkF m 3 #[.val (.ref o0), .val (.int (2 : Int32)), .val (.ref o1), .val (.int (2 : Int32)), .val (.int (2 : Int32)), .val (.int (2 : Int32)), .val (.int x2)] [])) (fun X t q => XS.goto X.here C.hx rfl (pc0 := 41) (pc' := 3) rfl (hb C.hby d14_41) (by decide) (by decide) q) ?_
  refine Wk.st (g' := (mkF m 5 #[.val (.ref o0), .val (.int (2 : Int32)), .val (.ref o1), .val (.int (2 : Int32)), .val (.int (2 : Int32)), .val (.int (2 : Int32)), .val (.int x2)] [(.int (2 : Int32))])) (fun X t q => XS.iload X.here C.hx rfl (hb C.hby d14_3) rfl q) ?_
  refine Wk.st (g' := (mkF m 7 #[.val (.ref o0), .val (.int (2 : Int32)), .val (.ref o1), .val (.int (2 : Int32)), .val (.int (2 : Int32)), .val (.int (2 : Int32)), .val (.int x2)] [(.int (2 : Int32)), (.int (2 : Int32))])) (fun X t q => XS.iload X.here C.hx rfl (hb C.hby d14_5) rfl q) ?_
  refine Wk.st (g' := (mkF m 44 #[.val (.ref o0), .val (.int (2 : Int32)), .val (.ref o1), .val (.int (2 : Int32)), .val (.int (2 : Int32)), .val (.int (2 : Int32)), .val (.int x2)] [])) (fun X t q => XS.icmpYes X.here C.hx rfl (pc0 := 7) (pc' := 44) rfl (hb C.hby d14_7) rfl (XT.ii_ge_t (by decide)) (by decide) (by decide) q) ?_
  refine Wk.st (g' := (mkF m 46 #[.val (.ref o0), .val (.int (2 : Int32)), .val (.ref o1), .val (.int (2 : Int32)), .val (.int (2 : Int32)), .val (.int (2 : Int32)), .val (.int x2)] [(.int (2 : Int32))])) (fun X t q => XS.iload X.here C.hx rfl (hb C.hby d14_44) rfl q) ?_
  exact Wk.retV C (t := .int) rfl rfl (Or.inl ⟨rfl, by simp, _, rfl⟩) d14_46 (by decide) (by decide) ⟨rfl, K20, F14, F13⟩
theorem d13_0 : decode jdk_52_method_16_code 0 = .ok (.iload_n 2, 1) := by decide +kernel
theorem d13_1 : decode jdk_52_method_16_code 1 = .ok (.newarray .byte, 2) := by decide +kernel
theorem d13_3 : decode jdk_52_method_16_code 3 = .ok (.astore_n 3, 1) := by decide +kernel
theorem d13_4 : decode jdk_52_method_16_code 4 = .ok (.aload_n 0, 1) := by decide +kernel
theorem d13_5 : decode jdk_52_method_16_code 5 = .ok (.iload_n 1, 1) := by decide +kernel
theorem d13_6 : decode jdk_52_method_16_code 6 = .ok (.aload_n 3, 1) := by decide +kernel
theorem d13_7 : decode jdk_52_method_16_code 7 = .ok (.iconst 0, 1) := by decide +kernel
theorem d13_8 : decode jdk_52_method_16_code 8 = .ok (.iload_n 2, 1) := by decide +kernel
theorem d13_9 : decode jdk_52_method_16_code 9 = .ok (.invokestatic 115, 3) := by decide +kernel
theorem d13_12 : decode jdk_52_method_16_code 12 = .ok (.istore 4, 2) := by decide +kernel
theorem d13_14 : decode jdk_52_method_16_code 14 = .ok (.iload 4, 2) := by decide +kernel
theorem d13_16 : decode jdk_52_method_16_code 16 = .ok (.iload_n 2, 1) := by decide +kernel
theorem d13_17 : decode jdk_52_method_16_code 17 = .ok (.if_icmp .eq 40, 3) := by decide +kernel
theorem d13_20 : decode jdk_52_method_16_code 20 = .ok (.aload_n 0, 1) := by decide +kernel
theorem d13_21 : decode jdk_52_method_16_code 21 = .ok (.iload_n 1, 1) := by decide +kernel
theorem d13_22 : decode jdk_52_method_16_code 22 = .ok (.iload_n 2, 1) := by decide +kernel
theorem d13_23 : decode jdk_52_method_16_code 23 = .ok (.invokestatic 119, 3) := by decide +kernel
theorem d13_26 : decode jdk_52_method_16_code 26 = .ok (.astore 5, 2) := by decide +kernel
theorem d13_28 : decode jdk_52_method_16_code 28 = .ok (.aload 5, 2) := by decide +kernel
theorem d13_30 : decode jdk_52_method_16_code 30 = .ok (.iload 4, 2) := by decide +kernel
theorem d13_32 : decode jdk_52_method_16_code 32 = .ok (.invokestatic 71, 3) := by decide +kernel
theorem d13_35 : decode jdk_52_method_16_code 35 = .ok (.sipush 255, 3) := by decide +kernel
theorem d13_38 : decode jdk_52_method_16_code 38 = .ok (.if_icmp .gt 16, 3) := by decide +kernel
theorem d13_41 : decode jdk_52_method_16_code 41 = .ok (.aload 5, 2) := by decide +kernel
theorem d13_43 : decode jdk_52_method_16_code 43 = .ok (.iconst 0, 1) := by decide +kernel
theorem d13_44 : decode jdk_52_method_16_code 44 = .ok (.aload_n 3, 1) := by decide +kernel
theorem d13_45 : decode jdk_52_method_16_code 45 = .ok (.iconst 0, 1) := by decide +kernel
theorem d13_46 : decode jdk_52_method_16_code 46 = .ok (.iload_n 2, 1) := by decide +kernel
theorem d13_47 : decode jdk_52_method_16_code 47 = .ok (.invokestatic 123, 3) := by decide +kernel
theorem d13_50 : decode jdk_52_method_16_code 50 = .ok (.iload_n 2, 1) := by decide +kernel
theorem d13_51 : decode jdk_52_method_16_code 51 = .ok (.if_icmp .eq 6, 3) := by decide +kernel
theorem d13_54 : decode jdk_52_method_16_code 54 = .ok (.aload 5, 2) := by decide +kernel
theorem d13_56 : decode jdk_52_method_16_code 56 = .ok (.areturn, 1) := by decide +kernel
theorem d13_57 : decode jdk_52_method_16_code 57 = .ok (.aload_n 3, 1) := by decide +kernel
theorem d13_58 : decode jdk_52_method_16_code 58 = .ok (.areturn, 1) := by decide +kernel
set_option maxRecDepth 65536 in
set_option maxHeartbeats 40000000 in
theorem own_13_21 (l : Launch) (Z : State) (a0 : Array Value) (hw : ∀ d ∈ tables_1, d.before a0 Z = true) (n0 : Nat) (h0 : Heap) (hsz : n0 ≤ h0.size) (o0 : Addr) (x0 : Int32) (x1 : Int32) (x2 : Int32) (P0 : Sta Z h0 "java/lang/String" "COMPACT_STRINGS" "Z" (.int x0)) (P1 : Exa Z h0 o0 "[C") (P2 : Fa Z h0 o0 .char 2 (up (up (fun _ => (.int (0 : Int32))) 0 (.int x1)) 1 (.int x2))) (G_o0 : n0 ≤ o0) (lat_x1 : ¬ (255 : Int32) < x1) (lat_x2 : ¬ (255 : Int32) < x2) (nz_x0 : ¬ x0 = (0 : Int32)) :
    Met true l Z n0 (⟨"java/lang/StringUTF16", "compress", "([CII)[B"⟩ : MethodName) jdk_52_method_16_code 6 (some (.array .byte)) ({ frames := 1, cells := 1, slots := 2, locals := 18 } : Room) #[(.ref o0), (.int (0 : Int32)), (.int (2 : Int32))] h0 (fun v h => ∃ b2 : Addr, v = some (.ref b2) ∧ Keep h0 h [] ∧ h0.size ≤ b2 ∧ Exa Z h b2 "[B" ∧ Sta Z h "java/lang/String" "COMPACT_STRINGS" "Z" (.int x0) ∧ Fa Z h b2 .byte 2 (up (up (fun _ => (.int (0 : Int32))) 0 (.int (nar .byte (x1.toInt8.toInt32)))) 1 (.int (nar .byte (x2.toInt8.toInt32))))) := by
  refine Met.of (plainFor_of_name pn_5) #[.val (.ref o0), .val (.int (0 : Int32)), .val (.int (2 : Int32)), .unset, .unset, .unset] (fun m => by first | (simp [entryFrame, mkF, argsToLocals, Value.category]; done) | rfl) ?_
  intro p e s m below meth c C
  refine Wk.st (g' := (mkF m 1 #[.val (.ref o0), .val (.int (0 : Int32)), .val (.int (2 : Int32)), .unset, .unset, .unset] [(.int (2 : Int32))])) (fun X t q => XS.iloadN X.here C.hx rfl (hb C.hby d13_0) rfl q) ?_
  refine Wk.fNewP C (hw _ (List.mem_of_getElem? (i := 15) rfl)) (ty := .byte) (dv := (.int (0 : Int32))) (N := 2) (ad := "[B") rfl rfl (by decide) (by decide) (by decide) (cap := 2) (by decide) (by decide) d13_1 (by decide) (by decide) ?_
  intro h1 b2 g3 E4 A5 F6
  have ne7 : o0 ≠ b2 := Nat.ne_of_lt (Nat.lt_of_lt_of_le P1.lt (Nat.le_of_eq g3.symm))
  have ge8 : n0 ≤ b2 := Nat.le_trans hsz (Nat.le_of_eq g3.symm)
  have gz9 : h0.size ≤ b2 := Nat.le_trans (Nat.le_refl h0.size) (Nat.le_of_eq g3.symm)
  have F10 : Sta Z h1 "java/lang/String" "COMPACT_STRINGS" "Z" (.int x0) := P0.ext E4
  have F11 : Exa Z h1 o0 "[C" := P1.ext E4
  have F12 : Fa Z h1 o0 .char 2 (up (up (fun _ => (.int (0 : Int32))) 0 (.int x1)) 1 (.int x2)) := P2.ext E4
  have sz13 : n0 ≤ h1.size := Nat.le_trans hsz E4.1
  have sy14 : h0.size ≤ h1.size := Nat.le_trans (Nat.le_refl h0.size) E4.1
  have K15 := (Keep.refl h0 []).ext E4
  show Wk _ p l e _ s m _ below meth c n0 _ h1 1 2 (mkF m 3 #[.val (.ref o0), .val (.int (0 : Int32)), .val (.int (2 : Int32)), .unset, .unset, .unset] [(.ref b2)])
  refine Wk.st (g' := (mkF m 4 #[.val (.ref o0), .val (.int (0 : Int32)), .val (.int (2 : Int32)), .val (.ref b2), .unset, .unset] [])) (fun X t q => XS.astoreN X.here C.hx rfl (hb C.hby d13_3) rfl rfl (l' := #[.val (.ref o0), .val (.int (0 : Int32)), .val (.int (2 : Int32)), .val (.ref b2), .unset, .unset]) rfl q) ?_
  refine Wk.st (g' := (mkF m 5 #[.val (.ref o0), .val (.int (0 : Int32)), .val (.int (2 : Int32)), .val (.ref b2), .unset, .unset] [(.ref o0)])) (fun X t q => XS.aloadN X.here C.hx rfl (hb C.hby d13_4) rfl rfl q) ?_
  refine Wk.st (g' := (mkF m 6 #[.val (.ref o0), .val (.int (0 : Int32)), .val (.int (2 : Int32)), .val (.ref b2), .unset, .unset] [(.int (0 : Int32)), (.ref o0)])) (fun X t q => XS.iloadN X.here C.hx rfl (hb C.hby d13_5) rfl q) ?_
  refine Wk.st (g' := (mkF m 7 #[.val (.ref o0), .val (.int (0 : Int32)), .val (.int (2 : Int32)), .val (.ref b2), .unset, .unset] [(.ref b2), (.int (0 : Int32)), (.ref o0)])) (fun X t q => XS.aloadN X.here C.hx rfl (hb C.hby d13_6) rfl rfl q) ?_
  refine Wk.st (g' := (mkF m 8 #[.val (.ref o0), .val (.int (0 : Int32)), .val (.int (2 : Int32)), .val (.ref b2), .unset, .unset] [(.int (0 : Int32)), (.ref b2), (.int (0 : Int32)), (.ref o0)])) (fun X t q => XS.iconst X.here C.hx rfl (hb C.hby d13_7) q) ?_
  refine Wk.st (g' := (mkF m 9 #[.val (.ref o0), .val (.int (0 : Int32)), .val (.int (2 : Int32)), .val (.ref b2), .unset, .unset] [(.int (2 : Int32)), (.int (0 : Int32)), (.ref b2), (.int (0 : Int32)), (.ref o0)])) (fun X t q => XS.iloadN X.here C.hx rfl (hb C.hby d13_8) rfl q) ?_
  refine Wk.callS C (z := (⟨"java/lang/StringUTF16", "compress", "([CI[BII)I"⟩ : MethodName)) (hw _ (List.mem_of_getElem? (i := 80) rfl)) (hw _ (List.mem_of_getElem? (i := 81) rfl)) (hw _ (List.mem_of_getElem? (i := 78) rfl)) (hw _ (List.mem_of_getElem? (i := 82) rfl)) (by decide) (own_14_21 l Z a0 hw n0 h1 sz13 o0 b2 x0 x1 x2 F10 F11 F12 A5 F6 ne7 G_o0 ge8 lat_x1 lat_x2 nz_x0) (w := 0) (by decide) (by decide) pd_15 rfl (rest := []) rfl rfl (Nat.le_of_eq rfl) (by decide) (by decide) d13_9 ?_
  rintro _ h17 ⟨rfl, K18, F19, F20⟩
  show Wk _ p l e _ s m _ below meth c n0 _ h17 1 2 (mkF m 12 #[.val (.ref o0), .val (.int (0 : Int32)), .val (.int (2 : Int32)), .val (.ref b2), .unset, .unset] [(.int (2 : Int32))])
  have F21 : Exa Z h17 o0 "[C" := F11.keep K18
  have F22 : Fa Z h17 o0 .char 2 (up (up (fun _ => (.int (0 : Int32))) 0 (.int x1)) 1 (.int x2)) := F12.keep K18 (nmS ne7 nm0)
  have F23 : Exa Z h17 b2 "[B" := A5.keep K18
  have sz24 : n0 ≤ h17.size := Nat.le_trans sz13 K18.1
  have K25 := K15.trans K18 (nvS (Or.inr gz9) nv0)
  have sy26 : h0.size ≤ h17.size := Nat.le_trans sy14 K18.1
  refine Wk.st (g' := (mkF m 14 #[.val (.ref o0), .val (.int (0 : Int32)), .val (.int (2 : Int32)), .val (.ref b2), .val (.int (2 : Int32)), .unset] [])) (fun X t q => XS.istore X.here C.hx rfl (hb C.hby d13_12) rfl (l' := #[.val (.ref o0), .val (.int (0 : Int32)), .val (.int (2 : Int32)), .val (.ref b2), .val (.int (2 : Int32)), .unset]) rfl q) ?_
  refine Wk.st (g' := (mkF m 16 #[.val (.ref o0), .val (.int (0 : Int32)), .val (.int (2 : Int32)), .val (.ref b2), .val (.int (2 : Int32)), .unset] [(.int (2 : Int32))])) (fun X t q => XS.iload X.here C.hx rfl (hb C.hby d13_14) rfl q) ?_
  refine Wk.st (g' := (mkF m 17 #[.val (.ref o0), .val (.int (0 : Int32)), .val (.int (2 : Int32)), .val (.ref b2), .val (.int (2 : Int32)), .unset] [(.int (2 : Int32)), (.int (2 : Int32))])) (fun X t q => XS.iloadN X.here C.hx rfl (hb C.hby d13_16) rfl q) ?_
  refine Wk.st (g' := (mkF m 57 #[.val (.ref o0), .val (.int (0 : Int32)), .val (.int (2 : Int32)), .val (.ref b2), .val (.int (2 : Int32)), .unset] [])) (fun X t q => XS.icmpYes X.here C.hx rfl (pc0 := 17) (pc' := 57) rfl (hb C.hby d13_17) rfl (XT.ii_eq_t (by decide)) (by decide) (by decide) q) ?_
  refine Wk.st (g' := (mkF m 58 #[.val (.ref o0), .val (.int (0 : Int32)), .val (.int (2 : Int32)), .val (.ref b2), .val (.int (2 : Int32)), .unset] [(.ref b2)])) (fun X t q => XS.aloadN X.here C.hx rfl (hb C.hby d13_57) rfl rfl q) ?_
  exact Wk.retV C (t := (.array .byte)) rfl rfl (Or.inr (Or.inr (Or.inr (Or.inr ⟨rfl, rfl, rfl⟩)))) d13_58 (by decide) (by decide) ⟨b2, rfl, K25, gz9, F23, F19, F20⟩
theorem d15_0 : decode jdk_52_method_15_code 0 = .ok (.iload_n 1, 1) := by decide +kernel
theorem d15_1 : decode jdk_52_method_15_code 1 = .ok (.aload_n 0, 1) := by decide +kernel
theorem d15_2 : decode jdk_52_method_15_code 2 = .ok (.arraylength, 1) := by decide +kernel
theorem d15_3 : decode jdk_52_method_15_code 3 = .ok (.isub, 1) := by decide +kernel
theorem d15_4 : decode jdk_52_method_15_code 4 = .ok (.bipush 31, 2) := by decide +kernel
theorem d15_6 : decode jdk_52_method_15_code 6 = .ok (.iushr, 1) := by decide +kernel
theorem d15_7 : decode jdk_52_method_15_code 7 = .ok (.i2b, 1) := by decide +kernel
theorem d15_8 : decode jdk_52_method_15_code 8 = .ok (.ireturn, 1) := by decide +kernel
set_option maxRecDepth 65536 in
set_option maxHeartbeats 40000000 in
theorem own_15_23 (l : Launch) (Z : State) (a0 : Array Value) (hw : ∀ d ∈ tables_1, d.before a0 Z = true) (n0 : Nat) (h0 : Heap) (hsz : n0 ≤ h0.size) (o0 : Addr) (x0 : Int32) (x1 : Int32) (x2 : Int32) (P0 : Exa Z h0 o0 "[B") (P1 : Sta Z h0 "java/lang/String" "COMPACT_STRINGS" "Z" (.int x0)) (P2 : Fa Z h0 o0 .byte 2 (up (up (fun _ => (.int (0 : Int32))) 0 (.int x1)) 1 (.int x2))) (G_o0 : n0 ≤ o0) (nz_x0 : ¬ x0 = (0 : Int32)) :
    Met true l Z n0 (⟨"java/lang/StringUTF16", "coderFromArrayLen", "([BI)B"⟩ : MethodName) jdk_52_method_15_code 2 (some .byte) ({ frames := 0, cells := 0, slots := 0, locals := 0 } : Room) #[(.ref o0), (.int (2 : Int32))] h0 (fun v h => v = some (.int (0 : Int32)) ∧ h0 = h) := by
  refine Met.of (plainFor_of_name pn_5) #[.val (.ref o0), .val (.int (2 : Int32))] (fun m => by first | (simp [entryFrame, mkF, argsToLocals, Value.category]; done) | rfl) ?_
  intro p e s m below meth c C
  refine Wk.st (g' := (mkF m 1 #[.val (.ref o0), .val (.int (2 : Int32))] [(.int (2 : Int32))])) (fun X t q => XS.iloadN X.here C.hx rfl (hb C.hby d15_0) rfl q) ?_
  refine Wk.st (g' := (mkF m 2 #[.val (.ref o0), .val (.int (2 : Int32))] [(.ref o0), (.int (2 : Int32))])) (fun X t q => XS.aloadN X.here C.hx rfl (hb C.hby d15_1) rfl rfl q) ?_
  refine Wk.fLen C P2 (z := (2 : Int32)) (by decide) d15_2 ?_
  show Wk _ p l e _ s m _ below meth c n0 _ h0 0 0 (mkF m 3 #[.val (.ref o0), .val (.int (2 : Int32))] [(.int (2 : Int32)), (.int (2 : Int32))])
  refine Wk.st (g' := (mkF m 4 #[.val (.ref o0), .val (.int (2 : Int32))] [(.int (0 : Int32))])) (fun X t q => XS.isub X.here C.hx rfl (hb C.hby d15_3) rfl q) ?_
  refine Wk.st (g' := (mkF m 6 #[.val (.ref o0), .val (.int (2 : Int32))] [(.int (31 : Int32)), (.int (0 : Int32))])) (fun X t q => XS.bipush X.here C.hx rfl (hb C.hby d15_4) q) ?_
  refine Wk.st (g' := (mkF m 7 #[.val (.ref o0), .val (.int (2 : Int32))] [(.int (0 : Int32))])) (fun X t q => XS.iushr X.here C.hx rfl (hb C.hby d15_6) rfl q) ?_
  refine Wk.st (g' := (mkF m 8 #[.val (.ref o0), .val (.int (2 : Int32))] [(.int (0 : Int32))])) (fun X t q => XS.i2b X.here C.hx rfl (hb C.hby d15_7) rfl q) ?_
  exact Wk.retV C (t := .byte) rfl rfl (Or.inl ⟨rfl, by simp, _, rfl⟩) d15_8 (by decide) (by decide) ⟨rfl, rfl⟩
set_option maxRecDepth 65536 in
set_option maxHeartbeats 40000000 in
theorem own_2_21 (l : Launch) (Z : State) (a0 : Array Value) (hw : ∀ d ∈ tables_1, d.before a0 Z = true) (n0 : Nat) (h0 : Heap) (hsz : n0 ≤ h0.size) (o0 : Addr) (o1 : Addr) (x0 : Int32) (x1 : Int32) (x2 : Int32) (P0 : Sta Z h0 "java/lang/String" "COMPACT_STRINGS" "Z" (.int x0)) (P1 : Exa Z h0 o0 "java/lang/String") (P2 : Fld Z h0 o0 "java/lang/String" "value" "[B" .null) (P3 : Fld Z h0 o0 "java/lang/String" "coder" "B" (.int (0 : Int32))) (P4 : Exa Z h0 o1 "[C") (P5 : Fa Z h0 o1 .char 2 (up (up (fun _ => (.int (0 : Int32))) 0 (.int x1)) 1 (.int x2))) (N_o0_o1 : o0 ≠ o1) (G_o0 : n0 ≤ o0) (G_o1 : n0 ≤ o1) (lat_x1 : ¬ (255 : Int32) < x1) (lat_x2 : ¬ (255 : Int32) < x2) (nz_x0 : ¬ x0 = (0 : Int32)) :
    Met true l Z n0 (⟨"java/lang/String", "<init>", "([CIILjava/lang/Void;)V"⟩ : MethodName) jdk_42_method_149_code 6 none ({ frames := 2, cells := 1, slots := 2, locals := 35 } : Room) #[(.ref o0), (.ref o1), (.int (0 : Int32)), (.int (2 : Int32)), .null] h0 (fun v h => ∃ n1_b2 : Addr, v = none ∧ Keep h0 h [o0] ∧ h0.size ≤ n1_b2 ∧ Exa Z h n1_b2 "[B" ∧ Sta Z h "java/lang/String" "COMPACT_STRINGS" "Z" (.int x0) ∧ Fa Z h n1_b2 .byte 2 (up (up (fun _ => (.int (0 : Int32))) 0 (.int (nar .byte (x1.toInt8.toInt32)))) 1 (.int (nar .byte (x2.toInt8.toInt32)))) ∧ Fld Z h o0 "java/lang/String" "coder" "B" (.int (0 : Int32)) ∧ Fld Z h o0 "java/lang/String" "value" "[B" (.ref n1_b2)) := by
  refine Met.of (plainFor_of_name pn_0) #[.val (.ref o0), .val (.ref o1), .val (.int (0 : Int32)), .val (.int (2 : Int32)), .val .null, .unset] (fun m => by first | (simp [entryFrame, mkF, argsToLocals, Value.category]; done) | rfl) ?_
  intro p e s m below meth c C
  refine Wk.st (g' := (mkF m 1 #[.val (.ref o0), .val (.ref o1), .val (.int (0 : Int32)), .val (.int (2 : Int32)), .val .null, .unset] [(.ref o0)])) (fun X t q => XS.aloadN X.here C.hx rfl (hb C.hby d2_0) rfl rfl q) ?_
  refine Wk.initO C (hw _ (List.mem_of_getElem? (i := 11) rfl)) (hw _ (List.mem_of_getElem? (i := 12) rfl)) (hw _ (List.mem_of_getElem? (i := 13) rfl)) (w := 0) rfl d2_1 (by decide) (Nat.le_of_eq rfl) (by decide) ?_
  show Wk _ p l e _ s m _ below meth c n0 _ h0 0 0 (mkF m 4 #[.val (.ref o0), .val (.ref o1), .val (.int (0 : Int32)), .val (.int (2 : Int32)), .val .null, .unset] [])
  refine Wk.st (g' := (mkF m 5 #[.val (.ref o0), .val (.ref o1), .val (.int (0 : Int32)), .val (.int (2 : Int32)), .val .null, .unset] [(.int (2 : Int32))])) (fun X t q => XS.iloadN X.here C.hx rfl (hb C.hby d2_4) rfl q) ?_
  refine Wk.st (g' := (mkF m 27 #[.val (.ref o0), .val (.ref o1), .val (.int (0 : Int32)), .val (.int (2 : Int32)), .val .null, .unset] [])) (fun X t q => XS.ifYes X.here C.hx rfl (pc0 := 5) (pc' := 27) rfl (hb C.hby d2_5) rfl (XT.i0_ne_t (by decide)) (by decide) (by decide) q) ?_
  refine Wk.getS C (hw _ (List.mem_of_getElem? (i := 75) rfl)) P0 d2_27 ?_
  show Wk _ p l e _ s m _ below meth c n0 _ h0 0 0 (mkF m 30 #[.val (.ref o0), .val (.ref o1), .val (.int (0 : Int32)), .val (.int (2 : Int32)), .val .null, .unset] [(.int x0)])
  refine Wk.st (g' := (mkF m 33 #[.val (.ref o0), .val (.ref o1), .val (.int (0 : Int32)), .val (.int (2 : Int32)), .val .null, .unset] [])) (fun X t q => XS.ifNo X.here C.hx rfl (hb C.hby d2_30) rfl (XT.i0_eq_f nz_x0) q) ?_
  refine Wk.st (g' := (mkF m 34 #[.val (.ref o0), .val (.ref o1), .val (.int (0 : Int32)), .val (.int (2 : Int32)), .val .null, .unset] [(.ref o1)])) (fun X t q => XS.aloadN X.here C.hx rfl (hb C.hby d2_33) rfl rfl q) ?_
  refine Wk.st (g' := (mkF m 35 #[.val (.ref o0), .val (.ref o1), .val (.int (0 : Int32)), .val (.int (2 : Int32)), .val .null, .unset] [(.int (0 : Int32)), (.ref o1)])) (fun X t q => XS.iloadN X.here C.hx rfl (hb C.hby d2_34) rfl q) ?_
  refine Wk.st (g' := (mkF m 36 #[.val (.ref o0), .val (.ref o1), .val (.int (0 : Int32)), .val (.int (2 : Int32)), .val .null, .unset] [(.int (2 : Int32)), (.int (0 : Int32)), (.ref o1)])) (fun X t q => XS.iloadN X.here C.hx rfl (hb C.hby d2_35) rfl q) ?_
  refine Wk.callS C (z := (⟨"java/lang/StringUTF16", "compress", "([CII)[B"⟩ : MethodName)) (hw _ (List.mem_of_getElem? (i := 76) rfl)) (hw _ (List.mem_of_getElem? (i := 77) rfl)) (hw _ (List.mem_of_getElem? (i := 78) rfl)) (hw _ (List.mem_of_getElem? (i := 79) rfl)) (by decide) (own_13_21 l Z a0 hw n0 h0 hsz o1 x0 x1 x2 P0 P4 P5  G_o1 lat_x1 lat_x2 nz_x0) (w := 0) (by decide) (by decide) pd_14 rfl (rest := []) rfl rfl (Nat.le_of_eq rfl) (by decide) (by decide) d2_36 ?_
  rintro _ h2 ⟨n1_b2, rfl, K3, gn7, F4, F5, F6⟩
  show Wk _ p l e _ s m _ below meth c n0 _ h2 1 2 (mkF m 39 #[.val (.ref o0), .val (.ref o1), .val (.int (0 : Int32)), .val (.int (2 : Int32)), .val .null, .unset] [(.ref n1_b2)])
  have ne8 : o0 ≠ n1_b2 := Nat.ne_of_lt (Nat.lt_of_lt_of_le P1.lt gn7)
  have ne9 : o1 ≠ n1_b2 := Nat.ne_of_lt (Nat.lt_of_lt_of_le P4.lt gn7)
  have ge10 : n0 ≤ n1_b2 := Nat.le_trans hsz gn7
  have gz11 : h0.size ≤ n1_b2 := Nat.le_trans (Nat.le_refl h0.size) gn7
  have F12 : Exa Z h2 o0 "java/lang/String" := P1.keep K3
  have F13 : Fld Z h2 o0 "java/lang/String" "value" "[B" .null := P2.keep K3 nm0
  have F14 : Fld Z h2 o0 "java/lang/String" "coder" "B" (.int (0 : Int32)) := P3.keep K3 nm0
  have F15 : Exa Z h2 o1 "[C" := P4.keep K3
  have F16 : Fa Z h2 o1 .char 2 (up (up (fun _ => (.int (0 : Int32))) 0 (.int x1)) 1 (.int x2)) := P5.keep K3 nm0
  have sz17 : n0 ≤ h2.size := Nat.le_trans hsz K3.1
  have K18 := (Keep.refl h0 [o0]).trans K3 nv0
  have sy19 : h0.size ≤ h2.size := Nat.le_trans (Nat.le_refl h0.size) K3.1
  refine Wk.st (g' := (mkF m 41 #[.val (.ref o0), .val (.ref o1), .val (.int (0 : Int32)), .val (.int (2 : Int32)), .val .null, .val (.ref n1_b2)] [])) (fun X t q => XS.astore X.here C.hx rfl (hb C.hby d2_39) rfl rfl (l' := #[.val (.ref o0), .val (.ref o1), .val (.int (0 : Int32)), .val (.int (2 : Int32)), .val .null, .val (.ref n1_b2)]) rfl q) ?_
  refine Wk.st (g' := (mkF m 42 #[.val (.ref o0), .val (.ref o1), .val (.int (0 : Int32)), .val (.int (2 : Int32)), .val .null, .val (.ref n1_b2)] [(.ref o0)])) (fun X t q => XS.aloadN X.here C.hx rfl (hb C.hby d2_41) rfl rfl q) ?_
  refine Wk.st (g' := (mkF m 44 #[.val (.ref o0), .val (.ref o1), .val (.int (0 : Int32)), .val (.int (2 : Int32)), .val .null, .val (.ref n1_b2)] [(.ref n1_b2), (.ref o0)])) (fun X t q => XS.aload X.here C.hx rfl (hb C.hby d2_42) rfl rfl q) ?_
  refine Wk.st (g' := (mkF m 45 #[.val (.ref o0), .val (.ref o1), .val (.int (0 : Int32)), .val (.int (2 : Int32)), .val .null, .val (.ref n1_b2)] [(.int (2 : Int32)), (.ref n1_b2), (.ref o0)])) (fun X t q => XS.iloadN X.here C.hx rfl (hb C.hby d2_44) rfl q) ?_
  refine Wk.callS C (z := (⟨"java/lang/StringUTF16", "coderFromArrayLen", "([BI)B"⟩ : MethodName)) (hw _ (List.mem_of_getElem? (i := 83) rfl)) (hw _ (List.mem_of_getElem? (i := 84) rfl)) (hw _ (List.mem_of_getElem? (i := 78) rfl)) (hw _ (List.mem_of_getElem? (i := 85) rfl)) (by decide) (own_15_23 l Z a0 hw n0 h2 sz17 n1_b2 x0 (nar .byte (x1.toInt8.toInt32)) (nar .byte (x2.toInt8.toInt32)) F4 F5 F6  ge10 nz_x0) (w := 1) (by decide) (by decide) pd_16 rfl (rest := [(.ref o0)]) rfl rfl (Nat.le_of_eq rfl) (by decide) (by decide) d2_45 ?_
  rintro _ _ ⟨rfl, rfl⟩
  show Wk _ p l e _ s m _ below meth c n0 _ h2 1 2 (mkF m 48 #[.val (.ref o0), .val (.ref o1), .val (.int (0 : Int32)), .val (.int (2 : Int32)), .val .null, .val (.ref n1_b2)] [(.int (0 : Int32)), (.ref o0)])
  refine Wk.putF C (hw _ (List.mem_of_getElem? (i := 21) rfl)) Via.refl F14 F12 (Or.inr ⟨(hw _ (List.mem_of_getElem? (i := 17) rfl)), rfl, rfl⟩) (hw _ (List.mem_of_getElem? (i := 1) rfl)) (ty := .byte) (by decide) (v' := (.int (0 : Int32))) rfl (by decide) G_o0 d2_48 ?_
  intro h23 W24
  have F25 : Fld Z h23 o0 "java/lang/String" "coder" "B" (.int (0 : Int32)) := F14.same W24
  have F26 : Exa Z h23 o0 "java/lang/String" := F12.wr W24
  have F27 : Fld Z h23 o0 "java/lang/String" "value" "[B" .null := F13.other W24 (Or.inr (slot_ne (Or.inr (hw _ (List.mem_of_getElem? (i := 16) rfl))) (Or.inr (hw _ (List.mem_of_getElem? (i := 17) rfl))) (by decide) (t := (.array .byte)) (t' := .byte) (by decide) (by decide)))
  have F28 : Exa Z h23 o1 "[C" := F15.wr W24
  have F29 : Fa Z h23 o1 .char 2 (up (up (fun _ => (.int (0 : Int32))) 0 (.int x1)) 1 (.int x2)) := F16.other W24 (Ne.symm N_o0_o1)
  have F30 : Exa Z h23 n1_b2 "[B" := F4.wr W24
  have F31 : Sta Z h23 "java/lang/String" "COMPACT_STRINGS" "Z" (.int x0) := F5.wr W24
  have F32 : Fa Z h23 n1_b2 .byte 2 (up (up (fun _ => (.int (0 : Int32))) 0 (.int (nar .byte (x1.toInt8.toInt32)))) 1 (.int (nar .byte (x2.toInt8.toInt32)))) := F6.other W24 (Ne.symm ne8)
  have sz33 : n0 ≤ h23.size := Nat.le_trans sz17 (Nat.le_of_eq W24.size.symm)
  have sy34 : h0.size ≤ h23.size := Nat.le_trans sy19 (Nat.le_of_eq W24.size.symm)
  have K35 := K18.wr W24 (Or.inl (by simp))
  show Wk _ p l e _ s m _ below meth c n0 _ h23 1 2 (mkF m 51 #[.val (.ref o0), .val (.ref o1), .val (.int (0 : Int32)), .val (.int (2 : Int32)), .val .null, .val (.ref n1_b2)] [])
  refine Wk.st (g' := (mkF m 52 #[.val (.ref o0), .val (.ref o1), .val (.int (0 : Int32)), .val (.int (2 : Int32)), .val .null, .val (.ref n1_b2)] [(.ref o0)])) (fun X t q => XS.aloadN X.here C.hx rfl (hb C.hby d2_51) rfl rfl q) ?_
  refine Wk.st (g' := (mkF m 54 #[.val (.ref o0), .val (.ref o1), .val (.int (0 : Int32)), .val (.int (2 : Int32)), .val .null, .val (.ref n1_b2)] [(.ref n1_b2), (.ref o0)])) (fun X t q => XS.aload X.here C.hx rfl (hb C.hby d2_52) rfl rfl q) ?_
  refine Wk.putF C (hw _ (List.mem_of_getElem? (i := 20) rfl)) Via.refl F27 F26 (Or.inr ⟨(hw _ (List.mem_of_getElem? (i := 16) rfl)), rfl, rfl⟩) (hw _ (List.mem_of_getElem? (i := 1) rfl)) (ty := (.array .byte)) (by decide) (v' := (.ref n1_b2)) rfl rfl G_o0 d2_54 ?_
  intro h36 W37
  have F38 : Fld Z h36 o0 "java/lang/String" "value" "[B" (.ref n1_b2) := F27.same W37
  have F39 : Exa Z h36 o0 "java/lang/String" := F26.wr W37
  have F40 : Exa Z h36 o1 "[C" := F28.wr W37
  have F41 : Fa Z h36 o1 .char 2 (up (up (fun _ => (.int (0 : Int32))) 0 (.int x1)) 1 (.int x2)) := F29.other W37 (Ne.symm N_o0_o1)
  have F42 : Exa Z h36 n1_b2 "[B" := F30.wr W37
  have F43 : Sta Z h36 "java/lang/String" "COMPACT_STRINGS" "Z" (.int x0) := F31.wr W37
  have F44 : Fa Z h36 n1_b2 .byte 2 (up (up (fun _ => (.int (0 : Int32))) 0 (.int (nar .byte (x1.toInt8.toInt32)))) 1 (.int (nar .byte (x2.toInt8.toInt32)))) := F32.other W37 (Ne.symm ne8)
  have F45 : Fld Z h36 o0 "java/lang/String" "coder" "B" (.int (0 : Int32)) := F25.other W37 (Or.inr (slot_ne (Or.inr (hw _ (List.mem_of_getElem? (i := 17) rfl))) (Or.inr (hw _ (List.mem_of_getElem? (i := 16) rfl))) (by decide) (t := .byte) (t' := (.array .byte)) (by decide) (by decide)))
  have sz46 : n0 ≤ h36.size := Nat.le_trans sz33 (Nat.le_of_eq W37.size.symm)
  have sy47 : h0.size ≤ h36.size := Nat.le_trans sy34 (Nat.le_of_eq W37.size.symm)
  have K48 := K35.wr W37 (Or.inl (by simp))
  show Wk _ p l e _ s m _ below meth c n0 _ h36 1 2 (mkF m 57 #[.val (.ref o0), .val (.ref o1), .val (.int (0 : Int32)), .val (.int (2 : Int32)), .val .null, .val (.ref n1_b2)] [])
  exact Wk.retN0 C rfl d2_57 (by decide) (by decide) ⟨n1_b2, rfl, K48, gz11, F42, F43, F44, F45, F38⟩
set_option maxRecDepth 65536 in
set_option maxHeartbeats 40000000 in
theorem own_1_21 (l : Launch) (Z : State) (a0 : Array Value) (hw : ∀ d ∈ tables_1, d.before a0 Z = true) (n0 : Nat) (h0 : Heap) (hsz : n0 ≤ h0.size) (o0 : Addr) (o1 : Addr) (x0 : Int32) (x1 : Int32) (x2 : Int32) (P0 : Sta Z h0 "java/lang/String" "COMPACT_STRINGS" "Z" (.int x0)) (P1 : Exa Z h0 o0 "java/lang/String") (P2 : Fld Z h0 o0 "java/lang/String" "value" "[B" .null) (P3 : Fld Z h0 o0 "java/lang/String" "coder" "B" (.int (0 : Int32))) (P4 : Exa Z h0 o1 "[C") (P5 : Fa Z h0 o1 .char 2 (up (up (fun _ => (.int (0 : Int32))) 0 (.int x1)) 1 (.int x2))) (N_o0_o1 : o0 ≠ o1) (G_o0 : n0 ≤ o0) (G_o1 : n0 ≤ o1) (lat_x1 : ¬ (255 : Int32) < x1) (lat_x2 : ¬ (255 : Int32) < x2) (nz_x0 : ¬ x0 = (0 : Int32)) :
    Met true l Z n0 (⟨"java/lang/String", "<init>", "([C)V"⟩ : MethodName) jdk_42_method_3_code 2 none ({ frames := 3, cells := 1, slots := 2, locals := 52 } : Room) #[(.ref o0), (.ref o1)] h0 (fun v h => ∃ n1_n1_b2 : Addr, v = none ∧ Keep h0 h [o0] ∧ h0.size ≤ n1_n1_b2 ∧ Exa Z h n1_n1_b2 "[B" ∧ Sta Z h "java/lang/String" "COMPACT_STRINGS" "Z" (.int x0) ∧ Fa Z h n1_n1_b2 .byte 2 (up (up (fun _ => (.int (0 : Int32))) 0 (.int (nar .byte (x1.toInt8.toInt32)))) 1 (.int (nar .byte (x2.toInt8.toInt32)))) ∧ Fld Z h o0 "java/lang/String" "coder" "B" (.int (0 : Int32)) ∧ Fld Z h o0 "java/lang/String" "value" "[B" (.ref n1_n1_b2)) := by
  refine Met.of (plainFor_of_name pn_0) #[.val (.ref o0), .val (.ref o1)] (fun m => by first | (simp [entryFrame, mkF, argsToLocals, Value.category]; done) | rfl) ?_
  intro p e s m below meth c C
  refine Wk.st (g' := (mkF m 1 #[.val (.ref o0), .val (.ref o1)] [(.ref o0)])) (fun X t q => XS.aloadN X.here C.hx rfl (hb C.hby d1_0) rfl rfl q) ?_
  refine Wk.st (g' := (mkF m 2 #[.val (.ref o0), .val (.ref o1)] [(.ref o1), (.ref o0)])) (fun X t q => XS.aloadN X.here C.hx rfl (hb C.hby d1_1) rfl rfl q) ?_
  refine Wk.st (g' := (mkF m 3 #[.val (.ref o0), .val (.ref o1)] [(.int (0 : Int32)), (.ref o1), (.ref o0)])) (fun X t q => XS.iconst X.here C.hx rfl (hb C.hby d1_2) q) ?_
  refine Wk.st (g' := (mkF m 4 #[.val (.ref o0), .val (.ref o1)] [(.ref o1), (.int (0 : Int32)), (.ref o1), (.ref o0)])) (fun X t q => XS.aloadN X.here C.hx rfl (hb C.hby d1_3) rfl rfl q) ?_
  refine Wk.fLen C P5 (z := (2 : Int32)) (by decide) d1_4 ?_
  show Wk _ p l e _ s m _ below meth c n0 _ h0 0 0 (mkF m 5 #[.val (.ref o0), .val (.ref o1)] [(.int (2 : Int32)), (.int (0 : Int32)), (.ref o1), (.ref o0)])
  refine Wk.st (g' := (mkF m 6 #[.val (.ref o0), .val (.ref o1)] [.null, (.int (2 : Int32)), (.int (0 : Int32)), (.ref o1), (.ref o0)])) (fun X t q => XS.aconstNull X.here C.hx rfl (hb C.hby d1_5) q) ?_
  refine Wk.callI C (z := (⟨"java/lang/String", "<init>", "([CIILjava/lang/Void;)V"⟩ : MethodName)) rfl (hw _ (List.mem_of_getElem? (i := 7) rfl)) (hw _ (List.mem_of_getElem? (i := 8) rfl)) (hw _ (List.mem_of_getElem? (i := 2) rfl)) (hw _ (List.mem_of_getElem? (i := 10) rfl)) (by decide) (own_2_21 l Z a0 hw n0 h0 hsz o0 o1 x0 x1 x2 P0 P1 P2 P3 P4 P5 N_o0_o1 G_o0 G_o1 lat_x1 lat_x2 nz_x0) (w := 0) (by decide) (by decide) pd_0 rfl (rest := []) rfl rfl (Nat.le_of_eq rfl) (by decide) (by decide) d1_6 ?_
  rintro _ h2 ⟨n1_n1_b2, rfl, K3, gn9, F4, F5, F6, F7, F8⟩
  show Wk _ p l e _ s m _ below meth c n0 _ h2 1 2 (mkF m 9 #[.val (.ref o0), .val (.ref o1)] [])
  have ne10 : o0 ≠ n1_n1_b2 := Nat.ne_of_lt (Nat.lt_of_lt_of_le P1.lt gn9)
  have ne11 : o1 ≠ n1_n1_b2 := Nat.ne_of_lt (Nat.lt_of_lt_of_le P4.lt gn9)
  have ge12 : n0 ≤ n1_n1_b2 := Nat.le_trans hsz gn9
  have gz13 : h0.size ≤ n1_n1_b2 := Nat.le_trans (Nat.le_refl h0.size) gn9
  have F14 : Exa Z h2 o0 "java/lang/String" := P1.keep K3
  have F15 : Exa Z h2 o1 "[C" := P4.keep K3
  have F16 : Fa Z h2 o1 .char 2 (up (up (fun _ => (.int (0 : Int32))) 0 (.int x1)) 1 (.int x2)) := P5.keep K3 (nmS (Ne.symm N_o0_o1) nm0)
  have sz17 : n0 ≤ h2.size := Nat.le_trans hsz K3.1
  have K18 := (Keep.refl h0 [o0]).trans K3 (nvS (Or.inl (by simp)) nv0)
  have sy19 : h0.size ≤ h2.size := Nat.le_trans (Nat.le_refl h0.size) K3.1
  exact Wk.retN0 C rfl d1_9 (by decide) (by decide) ⟨n1_n1_b2, rfl, K18, gz13, F4, F5, F6, F7, F8⟩
set_option maxRecDepth 65536 in
set_option maxHeartbeats 40000000 in
theorem own_7_26 (l : Launch) (Z : State) (a0 : Array Value) (hw : ∀ d ∈ tables_1, d.before a0 Z = true) (n0 : Nat) (h0 : Heap) (hsz : n0 ≤ h0.size) (o0 : Addr) (o1 : Addr) (o2 : Addr) (x0 : Int32) (x1 : Int32) (x2 : Int32) (P0 : Exa Z h0 o0 "java/lang/String") (P1 : Exa Z h0 o2 "[B") (P2 : Sta Z h0 "java/lang/String" "COMPACT_STRINGS" "Z" (.int x0)) (P3 : Fa Z h0 o2 .byte 2 (up (up (fun _ => (.int (0 : Int32))) 0 (.int x1)) 1 (.int x2))) (P4 : Fld Z h0 o0 "java/lang/String" "coder" "B" (.int (0 : Int32))) (P5 : Fld Z h0 o0 "java/lang/String" "value" "[B" (.ref o2)) (N_o0_o2 : o0 ≠ o2) (G_o0 : n0 ≤ o0) (G_o2 : n0 ≤ o2) (nz_x0 : ¬ x0 = (0 : Int32)) :
    Met true l Z n0 (⟨"java/util/Objects", "requireNonNull", "(Ljava/lang/Object;Ljava/lang/String;)Ljava/lang/Object;"⟩ : MethodName) jdk_31_method_11_code 2 (some (.object "java/lang/Object")) ({ frames := 0, cells := 0, slots := 0, locals := 0 } : Room) #[(.ref o0), (.ref o1)] h0 (fun v h => v = some (.ref o0) ∧ h0 = h) := by
  refine Met.of (plainFor_of_name pn_2) #[.val (.ref o0), .val (.ref o1)] (fun m => by first | (simp [entryFrame, mkF, argsToLocals, Value.category]; done) | rfl) ?_
  intro p e s m below meth c C
  refine Wk.st (g' := (mkF m 1 #[.val (.ref o0), .val (.ref o1)] [(.ref o0)])) (fun X t q => XS.aloadN X.here C.hx rfl (hb C.hby d7_0) rfl rfl q) ?_
  refine Wk.st (g' := (mkF m 13 #[.val (.ref o0), .val (.ref o1)] [])) (fun X t q => XS.ifnonnullYes X.here C.hx rfl (pc0 := 1) (pc' := 13) rfl (hb C.hby d7_1) rfl (by decide) (by decide) q) ?_
  refine Wk.st (g' := (mkF m 14 #[.val (.ref o0), .val (.ref o1)] [(.ref o0)])) (fun X t q => XS.aloadN X.here C.hx rfl (hb C.hby d7_13) rfl rfl q) ?_
  exact Wk.retV C (t := (.object "java/lang/Object")) rfl rfl (Or.inr (Or.inr (Or.inr (Or.inr ⟨rfl, rfl, rfl⟩)))) d7_14 (by decide) (by decide) ⟨rfl, rfl⟩
set_option maxRecDepth 65536 in
set_option maxHeartbeats 40000000 in
theorem own_5_26 (l : Launch) (Z : State) (a0 : Array Value) (hw : ∀ d ∈ tables_1, d.before a0 Z = true) (n0 : Nat) (h0 : Heap) (hsz : n0 ≤ h0.size) (o0 : Addr) (o1 : Addr) (o2 : Addr) (x0 : Int32) (x1 : Int32) (x2 : Int32) (P0 : Exa Z h0 o1 "java/lang/String") (P1 : Exa Z h0 o2 "[B") (P2 : Sta Z h0 "java/lang/String" "COMPACT_STRINGS" "Z" (.int x0)) (P3 : Fa Z h0 o2 .byte 2 (up (up (fun _ => (.int (0 : Int32))) 0 (.int x1)) 1 (.int x2))) (P4 : Fld Z h0 o1 "java/lang/String" "coder" "B" (.int (0 : Int32))) (P5 : Fld Z h0 o1 "java/lang/String" "value" "[B" (.ref o2)) (P6 : Exa Z h0 o0 "com/example/escrow/escrow/LockRecord") (P7 : Fld Z h0 o0 "com/example/escrow/escrow/LockRecord" "name" "Ljava/lang/String;" .null) (P8 : Fld Z h0 o0 "com/example/escrow/escrow/LockRecord" "token" "J" (.long (0 : Int64))) (P9 : Fld Z h0 o0 "com/example/escrow/escrow/LockRecord" "owner" "Ljava/lang/String;" .null) (P10 : Fld Z h0 o0 "com/example/escrow/escrow/LockRecord" "claim" "Lcom/example/escrow/escrow/Claim;" .null) (N_o0_o1 : o0 ≠ o1) (N_o0_o2 : o0 ≠ o2) (N_o1_o2 : o1 ≠ o2) (G_o0 : n0 ≤ o0) (G_o1 : n0 ≤ o1) (G_o2 : n0 ≤ o2) (nz_x0 : ¬ x0 = (0 : Int32)) :
    Met true l Z n0 (⟨"com/example/escrow/escrow/LockRecord", "<init>", "(Ljava/lang/String;JLjava/lang/String;Lcom/example/escrow/escrow/Claim;)V"⟩ : MethodName) prog_25_method_1_code 6 none ({ frames := 2, cells := 2, slots := 20, locals := 24 } : Room) #[(.ref o0), (.ref o1), (.long (0 : Int64)), .null, .null] h0 (fun v h => v = none ∧ Keep h0 h [o0] ∧ Sta Z h "java/lang/String" "COMPACT_STRINGS" "Z" (.int x0) ∧ Fld Z h o0 "com/example/escrow/escrow/LockRecord" "name" "Ljava/lang/String;" (.ref o1) ∧ Fld Z h o0 "com/example/escrow/escrow/LockRecord" "token" "J" (.long (0 : Int64)) ∧ Fld Z h o0 "com/example/escrow/escrow/LockRecord" "owner" "Ljava/lang/String;" .null ∧ Fld Z h o0 "com/example/escrow/escrow/LockRecord" "claim" "Lcom/example/escrow/escrow/Claim;" .null) := by
  refine Met.of (plainFor_of_name pn_3) #[.val (.ref o0), .val (.ref o1), .val (.long (0 : Int64)), .second, .val .null, .val .null] (fun m => by first | (simp [entryFrame, mkF, argsToLocals, Value.category]; done) | rfl) ?_
  intro p e s m below meth c C
  refine Wk.st (g' := (mkF m 1 #[.val (.ref o0), .val (.ref o1), .val (.long (0 : Int64)), .second, .val .null, .val .null] [(.ref o0)])) (fun X t q => XS.aloadN X.here C.hx rfl (hb C.hby d5_0) rfl rfl q) ?_
  refine Wk.callI C (z := (⟨"java/lang/Record", "<init>", "()V"⟩ : MethodName)) rfl (hw _ (List.mem_of_getElem? (i := 31) rfl)) (hw _ (List.mem_of_getElem? (i := 32) rfl)) (hw _ (List.mem_of_getElem? (i := 34) rfl)) (hw _ (List.mem_of_getElem? (i := 35) rfl)) (by decide) (own_6_0 l Z a0 hw n0 h0 hsz o0 x0 P2 P6 P7 P8 P9 P10  G_o0 nz_x0) (w := 0) (by decide) (by decide) pd_4 rfl (rest := []) rfl rfl (Nat.le_of_eq rfl) (by decide) (by decide) d5_1 ?_
  rintro _ _ ⟨rfl, rfl⟩
  show Wk _ p l e _ s m _ below meth c n0 _ h0 0 0 (mkF m 4 #[.val (.ref o0), .val (.ref o1), .val (.long (0 : Int64)), .second, .val .null, .val .null] [])
  refine Wk.st (g' := (mkF m 5 #[.val (.ref o0), .val (.ref o1), .val (.long (0 : Int64)), .second, .val .null, .val .null] [(.ref o1)])) (fun X t q => XS.aloadN X.here C.hx rfl (hb C.hby d5_4) rfl rfl q) ?_
  refine Wk.ldcS C (hw _ (List.mem_of_getElem? (i := 37) rfl)) (own_wS hw) (N := 16) (by decide) (by decide) d5_5 (by decide) (by decide) ?_
  intro h4 a5 E6
  have F7 : Exa Z h4 o1 "java/lang/String" := P0.ext E6
  have F8 : Exa Z h4 o2 "[B" := P1.ext E6
  have F9 : Sta Z h4 "java/lang/String" "COMPACT_STRINGS" "Z" (.int x0) := P2.ext E6
  have F10 : Fa Z h4 o2 .byte 2 (up (up (fun _ => (.int (0 : Int32))) 0 (.int x1)) 1 (.int x2)) := P3.ext E6
  have F11 : Fld Z h4 o1 "java/lang/String" "coder" "B" (.int (0 : Int32)) := P4.ext E6
  have F12 : Fld Z h4 o1 "java/lang/String" "value" "[B" (.ref o2) := P5.ext E6
  have F13 : Exa Z h4 o0 "com/example/escrow/escrow/LockRecord" := P6.ext E6
  have F14 : Fld Z h4 o0 "com/example/escrow/escrow/LockRecord" "name" "Ljava/lang/String;" .null := P7.ext E6
  have F15 : Fld Z h4 o0 "com/example/escrow/escrow/LockRecord" "token" "J" (.long (0 : Int64)) := P8.ext E6
  have F16 : Fld Z h4 o0 "com/example/escrow/escrow/LockRecord" "owner" "Ljava/lang/String;" .null := P9.ext E6
  have F17 : Fld Z h4 o0 "com/example/escrow/escrow/LockRecord" "claim" "Lcom/example/escrow/escrow/Claim;" .null := P10.ext E6
  have sz18 : n0 ≤ h4.size := Nat.le_trans hsz E6.1
  have sy19 : h0.size ≤ h4.size := Nat.le_trans (Nat.le_refl h0.size) E6.1
  have K20 := (Keep.refl h0 [o0]).ext E6
  show Wk _ p l e _ s m _ below meth c n0 _ h4 2 20 (mkF m 7 #[.val (.ref o0), .val (.ref o1), .val (.long (0 : Int64)), .second, .val .null, .val .null] [(.ref a5), (.ref o1)])
  refine Wk.callS C (z := (⟨"java/util/Objects", "requireNonNull", "(Ljava/lang/Object;Ljava/lang/String;)Ljava/lang/Object;"⟩ : MethodName)) (hw _ (List.mem_of_getElem? (i := 38) rfl)) (hw _ (List.mem_of_getElem? (i := 39) rfl)) (hw _ (List.mem_of_getElem? (i := 40) rfl)) (hw _ (List.mem_of_getElem? (i := 41) rfl)) (by decide) (own_7_26 l Z a0 hw n0 h4 sz18 o1 a5 o2 x0 x1 x2 F7 F8 F9 F10 F11 F12 N_o1_o2 G_o1 G_o2 nz_x0) (w := 0) (by decide) (by decide) pd_5 rfl (rest := []) rfl rfl (Nat.le_of_eq rfl) (by decide) (by decide) d5_7 ?_
  rintro _ _ ⟨rfl, rfl⟩
  show Wk _ p l e _ s m _ below meth c n0 _ h4 2 20 (mkF m 10 #[.val (.ref o0), .val (.ref o1), .val (.long (0 : Int64)), .second, .val .null, .val .null] [(.ref o1)])
  refine Wk.st (g' := (mkF m 11 #[.val (.ref o0), .val (.ref o1), .val (.long (0 : Int64)), .second, .val .null, .val .null] [])) (fun X t q => XS.pop X.here C.hx rfl (hb C.hby d5_10) rfl rfl q) ?_
  refine Wk.st (g' := (mkF m 12 #[.val (.ref o0), .val (.ref o1), .val (.long (0 : Int64)), .second, .val .null, .val .null] [(.ref o0)])) (fun X t q => XS.aloadN X.here C.hx rfl (hb C.hby d5_11) rfl rfl q) ?_
  refine Wk.st (g' := (mkF m 13 #[.val (.ref o0), .val (.ref o1), .val (.long (0 : Int64)), .second, .val .null, .val .null] [(.ref o1), (.ref o0)])) (fun X t q => XS.aloadN X.here C.hx rfl (hb C.hby d5_12) rfl rfl q) ?_
  refine Wk.putF C (hw _ (List.mem_of_getElem? (i := 42) rfl)) Via.refl F14 F13 (Or.inr ⟨(hw _ (List.mem_of_getElem? (i := 43) rfl)), rfl, rfl⟩) (hw _ (List.mem_of_getElem? (i := 27) rfl)) (ty := (.object "java/lang/String")) (by decide) (v' := (.ref o1)) rfl rfl G_o0 d5_13 ?_
  intro h24 W25
  have F26 : Fld Z h24 o0 "com/example/escrow/escrow/LockRecord" "name" "Ljava/lang/String;" (.ref o1) := F14.same W25
  have F27 : Exa Z h24 o1 "java/lang/String" := F7.wr W25
  have F28 : Exa Z h24 o2 "[B" := F8.wr W25
  have F29 : Sta Z h24 "java/lang/String" "COMPACT_STRINGS" "Z" (.int x0) := F9.wr W25
  have F30 : Fa Z h24 o2 .byte 2 (up (up (fun _ => (.int (0 : Int32))) 0 (.int x1)) 1 (.int x2)) := F10.other W25 (Ne.symm N_o0_o2)
  have F31 : Fld Z h24 o1 "java/lang/String" "coder" "B" (.int (0 : Int32)) := F11.other W25 (Or.inl (Ne.symm N_o0_o1))
  have F32 : Fld Z h24 o1 "java/lang/String" "value" "[B" (.ref o2) := F12.other W25 (Or.inl (Ne.symm N_o0_o1))
  have F33 : Exa Z h24 o0 "com/example/escrow/escrow/LockRecord" := F13.wr W25
  have F34 : Fld Z h24 o0 "com/example/escrow/escrow/LockRecord" "token" "J" (.long (0 : Int64)) := F15.other W25 (Or.inr (slot_ne (Or.inr (hw _ (List.mem_of_getElem? (i := 45) rfl))) (Or.inr (hw _ (List.mem_of_getElem? (i := 43) rfl))) (by decide) (t := .long) (t' := (.object "java/lang/String")) (by decide) (by decide)))
  have F35 : Fld Z h24 o0 "com/example/escrow/escrow/LockRecord" "owner" "Ljava/lang/String;" .null := F16.other W25 (Or.inr (slot_ne (Or.inr (hw _ (List.mem_of_getElem? (i := 47) rfl))) (Or.inr (hw _ (List.mem_of_getElem? (i := 43) rfl))) (by decide) (t := (.object "java/lang/String")) (t' := (.object "java/lang/String")) (by decide) (by decide)))
  have F36 : Fld Z h24 o0 "com/example/escrow/escrow/LockRecord" "claim" "Lcom/example/escrow/escrow/Claim;" .null := F17.other W25 (Or.inr (slot_ne (Or.inr (hw _ (List.mem_of_getElem? (i := 49) rfl))) (Or.inr (hw _ (List.mem_of_getElem? (i := 43) rfl))) (by decide) (t := (.object "com/example/escrow/escrow/Claim")) (t' := (.object "java/lang/String")) (by decide) (by decide)))
  have sz37 : n0 ≤ h24.size := Nat.le_trans sz18 (Nat.le_of_eq W25.size.symm)
  have sy38 : h0.size ≤ h24.size := Nat.le_trans sy19 (Nat.le_of_eq W25.size.symm)
  have K39 := K20.wr W25 (Or.inl (by simp))
  show Wk _ p l e _ s m _ below meth c n0 _ h24 2 20 (mkF m 16 #[.val (.ref o0), .val (.ref o1), .val (.long (0 : Int64)), .second, .val .null, .val .null] [])
  refine Wk.st (g' := (mkF m 17 #[.val (.ref o0), .val (.ref o1), .val (.long (0 : Int64)), .second, .val .null, .val .null] [(.ref o0)])) (fun X t q => XS.aloadN X.here C.hx rfl (hb C.hby d5_16) rfl rfl q) ?_
  refine Wk.st (g' := (mkF m 18 #[.val (.ref o0), .val (.ref o1), .val (.long (0 : Int64)), .second, .val .null, .val .null] [(.long (0 : Int64)), (.ref o0)])) (fun X t q => XS.lloadN X.here C.hx rfl (hb C.hby d5_17) rfl q) ?_
  refine Wk.putF C (hw _ (List.mem_of_getElem? (i := 44) rfl)) Via.refl F34 F33 (Or.inr ⟨(hw _ (List.mem_of_getElem? (i := 45) rfl)), rfl, rfl⟩) (hw _ (List.mem_of_getElem? (i := 27) rfl)) (ty := .long) (by decide) (v' := (.long (0 : Int64))) rfl rfl G_o0 d5_18 ?_
  intro h40 W41
  have F42 : Fld Z h40 o0 "com/example/escrow/escrow/LockRecord" "token" "J" (.long (0 : Int64)) := F34.same W41
  have F43 : Exa Z h40 o1 "java/lang/String" := F27.wr W41
  have F44 : Exa Z h40 o2 "[B" := F28.wr W41
  have F45 : Sta Z h40 "java/lang/String" "COMPACT_STRINGS" "Z" (.int x0) := F29.wr W41
  have F46 : Fa Z h40 o2 .byte 2 (up (up (fun _ => (.int (0 : Int32))) 0 (.int x1)) 1 (.int x2)) := F30.other W41 (Ne.symm N_o0_o2)
  have F47 : Fld Z h40 o1 "java/lang/String" "coder" "B" (.int (0 : Int32)) := F31.other W41 (Or.inl (Ne.symm N_o0_o1))
  have F48 : Fld Z h40 o1 "java/lang/String" "value" "[B" (.ref o2) := F32.other W41 (Or.inl (Ne.symm N_o0_o1))
  have F49 : Exa Z h40 o0 "com/example/escrow/escrow/LockRecord" := F33.wr W41
  have F50 : Fld Z h40 o0 "com/example/escrow/escrow/LockRecord" "owner" "Ljava/lang/String;" .null := F35.other W41 (Or.inr (slot_ne (Or.inr (hw _ (List.mem_of_getElem? (i := 47) rfl))) (Or.inr (hw _ (List.mem_of_getElem? (i := 45) rfl))) (by decide) (t := (.object "java/lang/String")) (t' := .long) (by decide) (by decide)))
  have F51 : Fld Z h40 o0 "com/example/escrow/escrow/LockRecord" "claim" "Lcom/example/escrow/escrow/Claim;" .null := F36.other W41 (Or.inr (slot_ne (Or.inr (hw _ (List.mem_of_getElem? (i := 49) rfl))) (Or.inr (hw _ (List.mem_of_getElem? (i := 45) rfl))) (by decide) (t := (.object "com/example/escrow/escrow/Claim")) (t' := .long) (by decide) (by decide)))
  have F52 : Fld Z h40 o0 "com/example/escrow/escrow/LockRecord" "name" "Ljava/lang/String;" (.ref o1) := F26.other W41 (Or.inr (slot_ne (Or.inr (hw _ (List.mem_of_getElem? (i := 43) rfl))) (Or.inr (hw _ (List.mem_of_getElem? (i := 45) rfl))) (by decide) (t := (.object "java/lang/String")) (t' := .long) (by decide) (by decide)))
  have sz53 : n0 ≤ h40.size := Nat.le_trans sz37 (Nat.le_of_eq W41.size.symm)
  have sy54 : h0.size ≤ h40.size := Nat.le_trans sy38 (Nat.le_of_eq W41.size.symm)
  have K55 := K39.wr W41 (Or.inl (by simp))
  show Wk _ p l e _ s m _ below meth c n0 _ h40 2 20 (mkF m 21 #[.val (.ref o0), .val (.ref o1), .val (.long (0 : Int64)), .second, .val .null, .val .null] [])
  refine Wk.st (g' := (mkF m 22 #[.val (.ref o0), .val (.ref o1), .val (.long (0 : Int64)), .second, .val .null, .val .null] [(.ref o0)])) (fun X t q => XS.aloadN X.here C.hx rfl (hb C.hby d5_21) rfl rfl q) ?_
  refine Wk.st (g' := (mkF m 24 #[.val (.ref o0), .val (.ref o1), .val (.long (0 : Int64)), .second, .val .null, .val .null] [.null, (.ref o0)])) (fun X t q => XS.aload X.here C.hx rfl (hb C.hby d5_22) rfl rfl q) ?_
  refine Wk.putF C (hw _ (List.mem_of_getElem? (i := 46) rfl)) Via.refl F50 F49 (Or.inr ⟨(hw _ (List.mem_of_getElem? (i := 47) rfl)), rfl, rfl⟩) (hw _ (List.mem_of_getElem? (i := 27) rfl)) (ty := (.object "java/lang/String")) (by decide) (v' := .null) rfl rfl G_o0 d5_24 ?_
  intro h56 W57
  have F58 : Fld Z h56 o0 "com/example/escrow/escrow/LockRecord" "owner" "Ljava/lang/String;" .null := F50.same W57
  have F59 : Exa Z h56 o1 "java/lang/String" := F43.wr W57
  have F60 : Exa Z h56 o2 "[B" := F44.wr W57
  have F61 : Sta Z h56 "java/lang/String" "COMPACT_STRINGS" "Z" (.int x0) := F45.wr W57
  have F62 : Fa Z h56 o2 .byte 2 (up (up (fun _ => (.int (0 : Int32))) 0 (.int x1)) 1 (.int x2)) := F46.other W57 (Ne.symm N_o0_o2)
  have F63 : Fld Z h56 o1 "java/lang/String" "coder" "B" (.int (0 : Int32)) := F47.other W57 (Or.inl (Ne.symm N_o0_o1))
  have F64 : Fld Z h56 o1 "java/lang/String" "value" "[B" (.ref o2) := F48.other W57 (Or.inl (Ne.symm N_o0_o1))
  have F65 : Exa Z h56 o0 "com/example/escrow/escrow/LockRecord" := F49.wr W57
  have F66 : Fld Z h56 o0 "com/example/escrow/escrow/LockRecord" "claim" "Lcom/example/escrow/escrow/Claim;" .null := F51.other W57 (Or.inr (slot_ne (Or.inr (hw _ (List.mem_of_getElem? (i := 49) rfl))) (Or.inr (hw _ (List.mem_of_getElem? (i := 47) rfl))) (by decide) (t := (.object "com/example/escrow/escrow/Claim")) (t' := (.object "java/lang/String")) (by decide) (by decide)))
  have F67 : Fld Z h56 o0 "com/example/escrow/escrow/LockRecord" "name" "Ljava/lang/String;" (.ref o1) := F52.other W57 (Or.inr (slot_ne (Or.inr (hw _ (List.mem_of_getElem? (i := 43) rfl))) (Or.inr (hw _ (List.mem_of_getElem? (i := 47) rfl))) (by decide) (t := (.object "java/lang/String")) (t' := (.object "java/lang/String")) (by decide) (by decide)))
  have F68 : Fld Z h56 o0 "com/example/escrow/escrow/LockRecord" "token" "J" (.long (0 : Int64)) := F42.other W57 (Or.inr (slot_ne (Or.inr (hw _ (List.mem_of_getElem? (i := 45) rfl))) (Or.inr (hw _ (List.mem_of_getElem? (i := 47) rfl))) (by decide) (t := .long) (t' := (.object "java/lang/String")) (by decide) (by decide)))
  have sz69 : n0 ≤ h56.size := Nat.le_trans sz53 (Nat.le_of_eq W57.size.symm)
  have sy70 : h0.size ≤ h56.size := Nat.le_trans sy54 (Nat.le_of_eq W57.size.symm)
  have K71 := K55.wr W57 (Or.inl (by simp))
  show Wk _ p l e _ s m _ below meth c n0 _ h56 2 20 (mkF m 27 #[.val (.ref o0), .val (.ref o1), .val (.long (0 : Int64)), .second, .val .null, .val .null] [])
  refine Wk.st (g' := (mkF m 28 #[.val (.ref o0), .val (.ref o1), .val (.long (0 : Int64)), .second, .val .null, .val .null] [(.ref o0)])) (fun X t q => XS.aloadN X.here C.hx rfl (hb C.hby d5_27) rfl rfl q) ?_
  refine Wk.st (g' := (mkF m 30 #[.val (.ref o0), .val (.ref o1), .val (.long (0 : Int64)), .second, .val .null, .val .null] [.null, (.ref o0)])) (fun X t q => XS.aload X.here C.hx rfl (hb C.hby d5_28) rfl rfl q) ?_
  refine Wk.putF C (hw _ (List.mem_of_getElem? (i := 48) rfl)) Via.refl F66 F65 (Or.inr ⟨(hw _ (List.mem_of_getElem? (i := 49) rfl)), rfl, rfl⟩) (hw _ (List.mem_of_getElem? (i := 27) rfl)) (ty := (.object "com/example/escrow/escrow/Claim")) (by decide) (v' := .null) rfl rfl G_o0 d5_30 ?_
  intro h72 W73
  have F74 : Fld Z h72 o0 "com/example/escrow/escrow/LockRecord" "claim" "Lcom/example/escrow/escrow/Claim;" .null := F66.same W73
  have F75 : Exa Z h72 o1 "java/lang/String" := F59.wr W73
  have F76 : Exa Z h72 o2 "[B" := F60.wr W73
  have F77 : Sta Z h72 "java/lang/String" "COMPACT_STRINGS" "Z" (.int x0) := F61.wr W73
  have F78 : Fa Z h72 o2 .byte 2 (up (up (fun _ => (.int (0 : Int32))) 0 (.int x1)) 1 (.int x2)) := F62.other W73 (Ne.symm N_o0_o2)
  have F79 : Fld Z h72 o1 "java/lang/String" "coder" "B" (.int (0 : Int32)) := F63.other W73 (Or.inl (Ne.symm N_o0_o1))
  have F80 : Fld Z h72 o1 "java/lang/String" "value" "[B" (.ref o2) := F64.other W73 (Or.inl (Ne.symm N_o0_o1))
  have F81 : Exa Z h72 o0 "com/example/escrow/escrow/LockRecord" := F65.wr W73
  have F82 : Fld Z h72 o0 "com/example/escrow/escrow/LockRecord" "name" "Ljava/lang/String;" (.ref o1) := F67.other W73 (Or.inr (slot_ne (Or.inr (hw _ (List.mem_of_getElem? (i := 43) rfl))) (Or.inr (hw _ (List.mem_of_getElem? (i := 49) rfl))) (by decide) (t := (.object "java/lang/String")) (t' := (.object "com/example/escrow/escrow/Claim")) (by decide) (by decide)))
  have F83 : Fld Z h72 o0 "com/example/escrow/escrow/LockRecord" "token" "J" (.long (0 : Int64)) := F68.other W73 (Or.inr (slot_ne (Or.inr (hw _ (List.mem_of_getElem? (i := 45) rfl))) (Or.inr (hw _ (List.mem_of_getElem? (i := 49) rfl))) (by decide) (t := .long) (t' := (.object "com/example/escrow/escrow/Claim")) (by decide) (by decide)))
  have F84 : Fld Z h72 o0 "com/example/escrow/escrow/LockRecord" "owner" "Ljava/lang/String;" .null := F58.other W73 (Or.inr (slot_ne (Or.inr (hw _ (List.mem_of_getElem? (i := 47) rfl))) (Or.inr (hw _ (List.mem_of_getElem? (i := 49) rfl))) (by decide) (t := (.object "java/lang/String")) (t' := (.object "com/example/escrow/escrow/Claim")) (by decide) (by decide)))
  have sz85 : n0 ≤ h72.size := Nat.le_trans sz69 (Nat.le_of_eq W73.size.symm)
  have sy86 : h0.size ≤ h72.size := Nat.le_trans sy70 (Nat.le_of_eq W73.size.symm)
  have K87 := K71.wr W73 (Or.inl (by simp))
  show Wk _ p l e _ s m _ below meth c n0 _ h72 2 20 (mkF m 33 #[.val (.ref o0), .val (.ref o1), .val (.long (0 : Int64)), .second, .val .null, .val .null] [])
  exact Wk.retN0 C rfl d5_33 (by decide) (by decide) ⟨rfl, K87, F77, F82, F83, F84, F74⟩
set_option maxRecDepth 65536 in
set_option maxHeartbeats 40000000 in
theorem own_4_26 (l : Launch) (Z : State) (a0 : Array Value) (hw : ∀ d ∈ tables_1, d.before a0 Z = true) (n0 : Nat) (h0 : Heap) (hsz : n0 ≤ h0.size) (o0 : Addr) (o1 : Addr) (x0 : Int32) (x1 : Int32) (x2 : Int32) (P0 : Exa Z h0 o0 "java/lang/String") (P1 : Exa Z h0 o1 "[B") (P2 : Sta Z h0 "java/lang/String" "COMPACT_STRINGS" "Z" (.int x0)) (P3 : Fa Z h0 o1 .byte 2 (up (up (fun _ => (.int (0 : Int32))) 0 (.int x1)) 1 (.int x2))) (P4 : Fld Z h0 o0 "java/lang/String" "coder" "B" (.int (0 : Int32))) (P5 : Fld Z h0 o0 "java/lang/String" "value" "[B" (.ref o1)) (N_o0_o1 : o0 ≠ o1) (G_o0 : n0 ≤ o0) (G_o1 : n0 ≤ o1) (nz_x0 : ¬ x0 = (0 : Int32)) :
    Met true l Z n0 (⟨"com/example/escrow/escrow/LockRecord", "untaken", "(Ljava/lang/String;)Lcom/example/escrow/escrow/LockRecord;"⟩ : MethodName) prog_25_method_2_code 1 (some (.object "com/example/escrow/escrow/LockRecord")) ({ frames := 3, cells := 3, slots := 24, locals := 42 } : Room) #[(.ref o0)] h0 (fun v h => ∃ b2 : Addr, v = some (.ref b2) ∧ Keep h0 h [] ∧ h0.size ≤ b2 ∧ Exa Z h b2 "com/example/escrow/escrow/LockRecord" ∧ Sta Z h "java/lang/String" "COMPACT_STRINGS" "Z" (.int x0) ∧ Fld Z h b2 "com/example/escrow/escrow/LockRecord" "name" "Ljava/lang/String;" (.ref o0) ∧ Fld Z h b2 "com/example/escrow/escrow/LockRecord" "token" "J" (.long (0 : Int64)) ∧ Fld Z h b2 "com/example/escrow/escrow/LockRecord" "owner" "Ljava/lang/String;" .null ∧ Fld Z h b2 "com/example/escrow/escrow/LockRecord" "claim" "Lcom/example/escrow/escrow/Claim;" .null) := by
  refine Met.of (plainFor_of_name pn_3) #[.val (.ref o0)] (fun m => by first | (simp [entryFrame, mkF, argsToLocals, Value.category]; done) | rfl) ?_
  intro p e s m below meth c C
  refine Wk.newO C (hw _ (List.mem_of_getElem? (i := 26) rfl)) (hw _ (List.mem_of_getElem? (i := 27) rfl)) (hw _ (List.mem_of_getElem? (i := 24) rfl)) d4_0 (by decide) (by decide) ?_
  intro h1 b2 g3 E4 A5 D6
  have ne7 : o0 ≠ b2 := Nat.ne_of_lt (Nat.lt_of_lt_of_le P0.lt (Nat.le_of_eq g3.symm))
  have ne8 : o1 ≠ b2 := Nat.ne_of_lt (Nat.lt_of_lt_of_le P1.lt (Nat.le_of_eq g3.symm))
  have ge9 : n0 ≤ b2 := Nat.le_trans hsz (Nat.le_of_eq g3.symm)
  have gz10 : h0.size ≤ b2 := Nat.le_trans (Nat.le_refl h0.size) (Nat.le_of_eq g3.symm)
  have F11 : Exa Z h1 o0 "java/lang/String" := P0.ext E4
  have F12 : Exa Z h1 o1 "[B" := P1.ext E4
  have F13 : Sta Z h1 "java/lang/String" "COMPACT_STRINGS" "Z" (.int x0) := P2.ext E4
  have F14 : Fa Z h1 o1 .byte 2 (up (up (fun _ => (.int (0 : Int32))) 0 (.int x1)) 1 (.int x2)) := P3.ext E4
  have F15 : Fld Z h1 o0 "java/lang/String" "coder" "B" (.int (0 : Int32)) := P4.ext E4
  have F16 : Fld Z h1 o0 "java/lang/String" "value" "[B" (.ref o1) := P5.ext E4
  have sz17 : n0 ≤ h1.size := Nat.le_trans hsz E4.1
  have sy18 : h0.size ≤ h1.size := Nat.le_trans (Nat.le_refl h0.size) E4.1
  have K19 := (Keep.refl h0 []).ext E4
  have F20 : Fld Z h1 b2 "com/example/escrow/escrow/LockRecord" "name" "Ljava/lang/String;" .null := D6 (Or.inr (hw _ (List.mem_of_getElem? (i := 43) rfl))) (ty := (.object "java/lang/String")) (by decide)
  have F21 : Fld Z h1 b2 "com/example/escrow/escrow/LockRecord" "token" "J" (.long (0 : Int64)) := D6 (Or.inr (hw _ (List.mem_of_getElem? (i := 45) rfl))) (ty := .long) (by decide)
  have F22 : Fld Z h1 b2 "com/example/escrow/escrow/LockRecord" "owner" "Ljava/lang/String;" .null := D6 (Or.inr (hw _ (List.mem_of_getElem? (i := 47) rfl))) (ty := (.object "java/lang/String")) (by decide)
  have F23 : Fld Z h1 b2 "com/example/escrow/escrow/LockRecord" "claim" "Lcom/example/escrow/escrow/Claim;" .null := D6 (Or.inr (hw _ (List.mem_of_getElem? (i := 49) rfl))) (ty := (.object "com/example/escrow/escrow/Claim")) (by decide)
  show Wk _ p l e _ s m _ below meth c n0 _ h1 1 4 (mkF m 3 #[.val (.ref o0)] [(.ref b2)])
  refine Wk.st (g' := (mkF m 4 #[.val (.ref o0)] [(.ref b2), (.ref b2)])) (fun X t q => XS.dup X.here C.hx rfl (hb C.hby d4_3) rfl rfl q) ?_
  refine Wk.st (g' := (mkF m 5 #[.val (.ref o0)] [(.ref o0), (.ref b2), (.ref b2)])) (fun X t q => XS.aloadN X.here C.hx rfl (hb C.hby d4_4) rfl rfl q) ?_
  refine Wk.st (g' := (mkF m 6 #[.val (.ref o0)] [(.long (0 : Int64)), (.ref o0), (.ref b2), (.ref b2)])) (fun X t q => XS.lconst X.here C.hx rfl (hb C.hby d4_5) q) ?_
  refine Wk.st (g' := (mkF m 7 #[.val (.ref o0)] [.null, (.long (0 : Int64)), (.ref o0), (.ref b2), (.ref b2)])) (fun X t q => XS.aconstNull X.here C.hx rfl (hb C.hby d4_6) q) ?_
  refine Wk.st (g' := (mkF m 8 #[.val (.ref o0)] [.null, .null, (.long (0 : Int64)), (.ref o0), (.ref b2), (.ref b2)])) (fun X t q => XS.aconstNull X.here C.hx rfl (hb C.hby d4_7) q) ?_
  refine Wk.callI C (z := (⟨"com/example/escrow/escrow/LockRecord", "<init>", "(Ljava/lang/String;JLjava/lang/String;Lcom/example/escrow/escrow/Claim;)V"⟩ : MethodName)) rfl (hw _ (List.mem_of_getElem? (i := 28) rfl)) (hw _ (List.mem_of_getElem? (i := 29) rfl)) (hw _ (List.mem_of_getElem? (i := 24) rfl)) (hw _ (List.mem_of_getElem? (i := 30) rfl)) (by decide) (own_5_26 l Z a0 hw n0 h1 sz17 b2 o0 o1 x0 x1 x2 F11 F12 F13 F14 F15 F16 A5 F20 F21 F22 F23 (Ne.symm ne7) (Ne.symm ne8) N_o0_o1 ge9 G_o0 G_o1 nz_x0) (w := 1) (by decide) (by decide) pd_3 rfl (rest := [(.ref b2)]) rfl rfl (Nat.le_of_eq rfl) (by decide) (by decide) d4_8 ?_
  rintro _ h25 ⟨rfl, K26, F27, F28, F29, F30, F31⟩
  show Wk _ p l e _ s m _ below meth c n0 _ h25 3 24 (mkF m 11 #[.val (.ref o0)] [(.ref b2)])
  have F32 : Exa Z h25 o0 "java/lang/String" := F11.keep K26
  have F33 : Exa Z h25 o1 "[B" := F12.keep K26
  have F34 : Fa Z h25 o1 .byte 2 (up (up (fun _ => (.int (0 : Int32))) 0 (.int x1)) 1 (.int x2)) := F14.keep K26 (nmS ne8 nm0)
  have F35 : Fld Z h25 o0 "java/lang/String" "coder" "B" (.int (0 : Int32)) := F15.keep K26 (nmS ne7 nm0)
  have F36 : Fld Z h25 o0 "java/lang/String" "value" "[B" (.ref o1) := F16.keep K26 (nmS ne7 nm0)
  have F37 : Exa Z h25 b2 "com/example/escrow/escrow/LockRecord" := A5.keep K26
  have sz38 : n0 ≤ h25.size := Nat.le_trans sz17 K26.1
  have K39 := K19.trans K26 (nvS (Or.inr gz10) nv0)
  have sy40 : h0.size ≤ h25.size := Nat.le_trans sy18 K26.1
  exact Wk.retV C (t := (.object "com/example/escrow/escrow/LockRecord")) rfl rfl (Or.inr (Or.inr (Or.inr (Or.inr ⟨rfl, rfl, rfl⟩)))) d4_11 (by decide) (by decide) ⟨b2, rfl, K39, gz10, F37, F27, F28, F29, F30, F31⟩
set_option maxRecDepth 65536 in
set_option maxHeartbeats 40000000 in
theorem own_8_29 (l : Launch) (Z : State) (a0 : Array Value) (hw : ∀ d ∈ tables_1, d.before a0 Z = true) (n0 : Nat) (h0 : Heap) (hsz : n0 ≤ h0.size) (o0 : Addr) (o1 : Addr) (o2 : Addr) (x0 : Int32) (x1 : Int32) (x2 : Int32) (P0 : Exa Z h0 o1 "java/lang/String") (P1 : Exa Z h0 o2 "[B") (P2 : Fa Z h0 o2 .byte 2 (up (up (fun _ => (.int (0 : Int32))) 0 (.int x0)) 1 (.int x1))) (P3 : Fld Z h0 o1 "java/lang/String" "coder" "B" (.int (0 : Int32))) (P4 : Fld Z h0 o1 "java/lang/String" "value" "[B" (.ref o2)) (P5 : Exa Z h0 o0 "com/example/escrow/escrow/LockRecord") (P6 : Sta Z h0 "java/lang/String" "COMPACT_STRINGS" "Z" (.int x2)) (P7 : Fld Z h0 o0 "com/example/escrow/escrow/LockRecord" "name" "Ljava/lang/String;" (.ref o1)) (P8 : Fld Z h0 o0 "com/example/escrow/escrow/LockRecord" "token" "J" (.long (0 : Int64))) (P9 : Fld Z h0 o0 "com/example/escrow/escrow/LockRecord" "owner" "Ljava/lang/String;" .null) (P10 : Fld Z h0 o0 "com/example/escrow/escrow/LockRecord" "claim" "Lcom/example/escrow/escrow/Claim;" .null) (N_o0_o1 : o0 ≠ o1) (N_o0_o2 : o0 ≠ o2) (N_o1_o2 : o1 ≠ o2) (G_o0 : n0 ≤ o0) (G_o1 : n0 ≤ o1) (G_o2 : n0 ≤ o2) (nz_x2 : ¬ x2 = (0 : Int32)) :
    Met true l Z n0 (⟨"com/example/escrow/escrow/LockRecord", "name", "()Ljava/lang/String;"⟩ : MethodName) prog_25_method_16_code 1 (some (.object "java/lang/String")) ({ frames := 0, cells := 0, slots := 0, locals := 0 } : Room) #[(.ref o0)] h0 (fun v h => v = some (.ref o1) ∧ h0 = h) := by
  refine Met.of (plainFor_of_name pn_3) #[.val (.ref o0)] (fun m => by first | (simp [entryFrame, mkF, argsToLocals, Value.category]; done) | rfl) ?_
  intro p e s m below meth c C
  refine Wk.st (g' := (mkF m 1 #[.val (.ref o0)] [(.ref o0)])) (fun X t q => XS.aloadN X.here C.hx rfl (hb C.hby d8_0) rfl rfl q) ?_
  refine Wk.getF C (hw _ (List.mem_of_getElem? (i := 42) rfl)) Via.refl P7 d8_1 ?_
  show Wk _ p l e _ s m _ below meth c n0 _ h0 0 0 (mkF m 4 #[.val (.ref o0)] [(.ref o1)])
  exact Wk.retV C (t := (.object "java/lang/String")) rfl rfl (Or.inr (Or.inr (Or.inr (Or.inr ⟨rfl, rfl, rfl⟩)))) d8_4 (by decide) (by decide) ⟨rfl, rfl⟩
set_option maxRecDepth 65536 in
set_option maxHeartbeats 40000000 in
theorem own_9_30 (l : Launch) (Z : State) (a0 : Array Value) (hw : ∀ d ∈ tables_1, d.before a0 Z = true) (n0 : Nat) (h0 : Heap) (hsz : n0 ≤ h0.size) (o0 : Addr) (o1 : Addr) (x0 : Int32) (x1 : Int32) (x2 : Int32) (P0 : Exa Z h0 o0 "java/lang/String") (P1 : Exa Z h0 o1 "[B") (P2 : Fa Z h0 o1 .byte 2 (up (up (fun _ => (.int (0 : Int32))) 0 (.int x0)) 1 (.int x1))) (P3 : Fld Z h0 o0 "java/lang/String" "coder" "B" (.int (0 : Int32))) (P4 : Fld Z h0 o0 "java/lang/String" "value" "[B" (.ref o1)) (P5 : Sta Z h0 "java/lang/String" "COMPACT_STRINGS" "Z" (.int x2)) (N_o0_o1 : o0 ≠ o1) (G_o0 : n0 ≤ o0) (G_o1 : n0 ≤ o1) (nz_x2 : ¬ x2 = (0 : Int32)) :
    Met true l Z n0 (⟨"java/lang/String", "equals", "(Ljava/lang/Object;)Z"⟩ : MethodName) jdk_42_method_66_code 3 (some .boolean) ({ frames := 0, cells := 0, slots := 0, locals := 0 } : Room) #[(.ref o0), (.ref o0)] h0 (fun v h => v = some (.int (1 : Int32)) ∧ h0 = h) := by
  refine Met.of (plainFor_of_name pn_0) #[.val (.ref o0), .val (.ref o0), .unset] (fun m => by first | (simp [entryFrame, mkF, argsToLocals, Value.category]; done) | rfl) ?_
  intro p e s m below meth c C
  refine Wk.st (g' := (mkF m 1 #[.val (.ref o0), .val (.ref o0), .unset] [(.ref o0)])) (fun X t q => XS.aloadN X.here C.hx rfl (hb C.hby d9_0) rfl rfl q) ?_
  refine Wk.st (g' := (mkF m 2 #[.val (.ref o0), .val (.ref o0), .unset] [(.ref o0), (.ref o0)])) (fun X t q => XS.aloadN X.here C.hx rfl (hb C.hby d9_1) rfl rfl q) ?_
  refine Wk.st (g' := (mkF m 5 #[.val (.ref o0), .val (.ref o0), .unset] [])) (fun X t q => Jvm.RoadKit.acmp (g := (mkF m 2 #[.val (.ref o0), .val (.ref o0), .unset] [(.ref o0), (.ref o0)])) X C.hx rfl rfl rfl (pc0 := 2) (pc' := 5) (same := true) rfl (hb C.hby d9_2) rfl (decide_eq_true (congrArg Value.ref rfl)) (by decide) (by decide) q) ?_
  refine Wk.st (g' := (mkF m 6 #[.val (.ref o0), .val (.ref o0), .unset] [(.int (1 : Int32))])) (fun X t q => XS.iconst X.here C.hx rfl (hb C.hby d9_5) q) ?_
  exact Wk.retV C (t := .boolean) rfl rfl (Or.inl ⟨rfl, by simp, _, rfl⟩) d9_6 (by decide) (by decide) ⟨rfl, rfl⟩
set_option maxRecDepth 65536 in
set_option maxHeartbeats 40000000 in
theorem own_10_31 (l : Launch) (Z : State) (a0 : Array Value) (hw : ∀ d ∈ tables_1, d.before a0 Z = true) (n0 : Nat) (h0 : Heap) (hsz : n0 ≤ h0.size) (o0 : Addr) (o1 : Addr) (o2 : Addr) (x0 : Int32) (x1 : Int32) (x2 : Int32) (P0 : Exa Z h0 o1 "java/lang/String") (P1 : Exa Z h0 o2 "[B") (P2 : Fa Z h0 o2 .byte 2 (up (up (fun _ => (.int (0 : Int32))) 0 (.int x0)) 1 (.int x1))) (P3 : Fld Z h0 o1 "java/lang/String" "coder" "B" (.int (0 : Int32))) (P4 : Fld Z h0 o1 "java/lang/String" "value" "[B" (.ref o2)) (P5 : Exa Z h0 o0 "com/example/escrow/escrow/LockRecord") (P6 : Sta Z h0 "java/lang/String" "COMPACT_STRINGS" "Z" (.int x2)) (P7 : Fld Z h0 o0 "com/example/escrow/escrow/LockRecord" "name" "Ljava/lang/String;" (.ref o1)) (P8 : Fld Z h0 o0 "com/example/escrow/escrow/LockRecord" "token" "J" (.long (0 : Int64))) (P9 : Fld Z h0 o0 "com/example/escrow/escrow/LockRecord" "owner" "Ljava/lang/String;" .null) (P10 : Fld Z h0 o0 "com/example/escrow/escrow/LockRecord" "claim" "Lcom/example/escrow/escrow/Claim;" .null) (N_o0_o1 : o0 ≠ o1) (N_o0_o2 : o0 ≠ o2) (N_o1_o2 : o1 ≠ o2) (G_o0 : n0 ≤ o0) (G_o1 : n0 ≤ o1) (G_o2 : n0 ≤ o2) (nz_x2 : ¬ x2 = (0 : Int32)) :
    Met true l Z n0 (⟨"com/example/escrow/escrow/LockRecord", "token", "()J"⟩ : MethodName) prog_25_method_17_code 1 (some .long) ({ frames := 0, cells := 0, slots := 0, locals := 0 } : Room) #[(.ref o0)] h0 (fun v h => v = some (.long (0 : Int64)) ∧ h0 = h) := by
  refine Met.of (plainFor_of_name pn_3) #[.val (.ref o0)] (fun m => by first | (simp [entryFrame, mkF, argsToLocals, Value.category]; done) | rfl) ?_
  intro p e s m below meth c C
  refine Wk.st (g' := (mkF m 1 #[.val (.ref o0)] [(.ref o0)])) (fun X t q => XS.aloadN X.here C.hx rfl (hb C.hby d10_0) rfl rfl q) ?_
  refine Wk.getF C (hw _ (List.mem_of_getElem? (i := 44) rfl)) Via.refl P8 d10_1 ?_
  show Wk _ p l e _ s m _ below meth c n0 _ h0 0 0 (mkF m 4 #[.val (.ref o0)] [(.long (0 : Int64))])
  exact Wk.retV C (t := .long) rfl rfl (Or.inr (Or.inl ⟨rfl, rfl, _, rfl⟩)) d10_4 (by decide) (by decide) ⟨rfl, rfl⟩
set_option maxRecDepth 65536 in
set_option maxHeartbeats 40000000 in
theorem own_11_32 (l : Launch) (Z : State) (a0 : Array Value) (hw : ∀ d ∈ tables_1, d.before a0 Z = true) (n0 : Nat) (h0 : Heap) (hsz : n0 ≤ h0.size) (o0 : Addr) (o1 : Addr) (o2 : Addr) (x0 : Int32) (x1 : Int32) (x2 : Int32) (P0 : Exa Z h0 o1 "java/lang/String") (P1 : Exa Z h0 o2 "[B") (P2 : Fa Z h0 o2 .byte 2 (up (up (fun _ => (.int (0 : Int32))) 0 (.int x0)) 1 (.int x1))) (P3 : Fld Z h0 o1 "java/lang/String" "coder" "B" (.int (0 : Int32))) (P4 : Fld Z h0 o1 "java/lang/String" "value" "[B" (.ref o2)) (P5 : Exa Z h0 o0 "com/example/escrow/escrow/LockRecord") (P6 : Sta Z h0 "java/lang/String" "COMPACT_STRINGS" "Z" (.int x2)) (P7 : Fld Z h0 o0 "com/example/escrow/escrow/LockRecord" "name" "Ljava/lang/String;" (.ref o1)) (P8 : Fld Z h0 o0 "com/example/escrow/escrow/LockRecord" "token" "J" (.long (0 : Int64))) (P9 : Fld Z h0 o0 "com/example/escrow/escrow/LockRecord" "owner" "Ljava/lang/String;" .null) (P10 : Fld Z h0 o0 "com/example/escrow/escrow/LockRecord" "claim" "Lcom/example/escrow/escrow/Claim;" .null) (N_o0_o1 : o0 ≠ o1) (N_o0_o2 : o0 ≠ o2) (N_o1_o2 : o1 ≠ o2) (G_o0 : n0 ≤ o0) (G_o1 : n0 ≤ o1) (G_o2 : n0 ≤ o2) (nz_x2 : ¬ x2 = (0 : Int32)) :
    Met true l Z n0 (⟨"com/example/escrow/escrow/LockRecord", "owner", "()Ljava/lang/String;"⟩ : MethodName) prog_25_method_18_code 1 (some (.object "java/lang/String")) ({ frames := 0, cells := 0, slots := 0, locals := 0 } : Room) #[(.ref o0)] h0 (fun v h => v = some .null ∧ h0 = h) := by
  refine Met.of (plainFor_of_name pn_3) #[.val (.ref o0)] (fun m => by first | (simp [entryFrame, mkF, argsToLocals, Value.category]; done) | rfl) ?_
  intro p e s m below meth c C
  refine Wk.st (g' := (mkF m 1 #[.val (.ref o0)] [(.ref o0)])) (fun X t q => XS.aloadN X.here C.hx rfl (hb C.hby d11_0) rfl rfl q) ?_
  refine Wk.getF C (hw _ (List.mem_of_getElem? (i := 46) rfl)) Via.refl P9 d11_1 ?_
  show Wk _ p l e _ s m _ below meth c n0 _ h0 0 0 (mkF m 4 #[.val (.ref o0)] [.null])
  exact Wk.retV C (t := (.object "java/lang/String")) rfl rfl (Or.inr (Or.inr (Or.inr (Or.inr ⟨rfl, rfl, rfl⟩)))) d11_4 (by decide) (by decide) ⟨rfl, rfl⟩
set_option maxRecDepth 65536 in
set_option maxHeartbeats 40000000 in
theorem own_12_33 (l : Launch) (Z : State) (a0 : Array Value) (hw : ∀ d ∈ tables_1, d.before a0 Z = true) (n0 : Nat) (h0 : Heap) (hsz : n0 ≤ h0.size) (o0 : Addr) (o1 : Addr) (o2 : Addr) (x0 : Int32) (x1 : Int32) (x2 : Int32) (P0 : Exa Z h0 o1 "java/lang/String") (P1 : Exa Z h0 o2 "[B") (P2 : Fa Z h0 o2 .byte 2 (up (up (fun _ => (.int (0 : Int32))) 0 (.int x0)) 1 (.int x1))) (P3 : Fld Z h0 o1 "java/lang/String" "coder" "B" (.int (0 : Int32))) (P4 : Fld Z h0 o1 "java/lang/String" "value" "[B" (.ref o2)) (P5 : Exa Z h0 o0 "com/example/escrow/escrow/LockRecord") (P6 : Sta Z h0 "java/lang/String" "COMPACT_STRINGS" "Z" (.int x2)) (P7 : Fld Z h0 o0 "com/example/escrow/escrow/LockRecord" "name" "Ljava/lang/String;" (.ref o1)) (P8 : Fld Z h0 o0 "com/example/escrow/escrow/LockRecord" "token" "J" (.long (0 : Int64))) (P9 : Fld Z h0 o0 "com/example/escrow/escrow/LockRecord" "owner" "Ljava/lang/String;" .null) (P10 : Fld Z h0 o0 "com/example/escrow/escrow/LockRecord" "claim" "Lcom/example/escrow/escrow/Claim;" .null) (N_o0_o1 : o0 ≠ o1) (N_o0_o2 : o0 ≠ o2) (N_o1_o2 : o1 ≠ o2) (G_o0 : n0 ≤ o0) (G_o1 : n0 ≤ o1) (G_o2 : n0 ≤ o2) (nz_x2 : ¬ x2 = (0 : Int32)) :
    Met true l Z n0 (⟨"com/example/escrow/escrow/LockRecord", "claim", "()Lcom/example/escrow/escrow/Claim;"⟩ : MethodName) prog_25_method_19_code 1 (some (.object "com/example/escrow/escrow/Claim")) ({ frames := 0, cells := 0, slots := 0, locals := 0 } : Room) #[(.ref o0)] h0 (fun v h => v = some .null ∧ h0 = h) := by
  refine Met.of (plainFor_of_name pn_3) #[.val (.ref o0)] (fun m => by first | (simp [entryFrame, mkF, argsToLocals, Value.category]; done) | rfl) ?_
  intro p e s m below meth c C
  refine Wk.st (g' := (mkF m 1 #[.val (.ref o0)] [(.ref o0)])) (fun X t q => XS.aloadN X.here C.hx rfl (hb C.hby d12_0) rfl rfl q) ?_
  refine Wk.getF C (hw _ (List.mem_of_getElem? (i := 48) rfl)) Via.refl P10 d12_1 ?_
  show Wk _ p l e _ s m _ below meth c n0 _ h0 0 0 (mkF m 4 #[.val (.ref o0)] [.null])
  exact Wk.retV C (t := (.object "com/example/escrow/escrow/Claim")) rfl rfl (Or.inr (Or.inr (Or.inr (Or.inr ⟨rfl, rfl, rfl⟩)))) d12_4 (by decide) (by decide) ⟨rfl, rfl⟩
set_option maxRecDepth 65536 in
set_option maxHeartbeats 40000000 in
theorem own_14_34 (l : Launch) (Z : State) (a0 : Array Value) (hw : ∀ d ∈ tables_1, d.before a0 Z = true) (n0 : Nat) (h0 : Heap) (hsz : n0 ≤ h0.size) (o0 : Addr) (o1 : Addr) (x0 : Int32) (x1 : Int32) (x2 : Int32) (x3 : Int32) (P0 : Sta Z h0 "java/lang/String" "COMPACT_STRINGS" "Z" (.int x0)) (P1 : Exa Z h0 o0 "[C") (P2 : Fa Z h0 o0 .char 3 (up (up (up (fun _ => (.int (0 : Int32))) 0 (.int x1)) 1 (.int x2)) 2 (.int x3))) (P3 : Exa Z h0 o1 "[B") (P4 : Fa Z h0 o1 .byte 3 (fun _ => (.int (0 : Int32)))) (N_o0_o1 : o0 ≠ o1) (G_o0 : n0 ≤ o0) (G_o1 : n0 ≤ o1) (lat_x1 : ¬ (255 : Int32) < x1) (lat_x2 : ¬ (255 : Int32) < x2) (lat_x3 : ¬ (255 : Int32) < x3) (nz_x0 : ¬ x0 = (0 : Int32)) :
    Met true l Z n0 (⟨"java/lang/StringUTF16", "compress", "([CI[BII)I"⟩ : MethodName) jdk_52_method_21_code 7 (some .int) ({ frames := 0, cells := 0, slots := 0, locals := 0 } : Room) #[(.ref o0), (.int (0 : Int32)), (.ref o1), (.int (0 : Int32)), (.int (3 : Int32))] h0 (fun v h => v = some (.int (3 : Int32)) ∧ Keep h0 h [o1] ∧ Sta Z h "java/lang/String" "COMPACT_STRINGS" "Z" (.int x0) ∧ Fa Z h o1 .byte 3 (up (up (up (fun _ => (.int (0 : Int32))) 0 (.int (nar .byte (x1.toInt8.toInt32)))) 1 (.int (nar .byte (x2.toInt8.toInt32)))) 2 (.int (nar .byte (x3.toInt8.toInt32))))) := by
  refine Met.of (plainFor_of_name pn_5) #[.val (.ref o0), .val (.int (0 : Int32)), .val (.ref o1), .val (.int (0 : Int32)), .val (.int (3 : Int32)), .unset, .unset] (fun m => by first | (simp [entryFrame, mkF, argsToLocals, Value.category]; done) | rfl) ?_
  intro p e s m below meth c C
  refine Wk.st (g' := (mkF m 1 #[.val (.ref o0), .val (.int (0 : Int32)), .val (.ref o1), .val (.int (0 : Int32)), .val (.int (3 : Int32)), .unset, .unset] [(.int (0 : Int32))])) (fun X t q => XS.iconst X.here C.hx rfl (hb C.hby d14_0) q) ?_
  refine Wk.st (g' := (mkF m 3 #[.val (.ref o0), .val (.int (0 : Int32)), .val (.ref o1), .val (.int (0 : Int32)), .val (.int (3 : Int32)), .val (.int (0 : Int32)), .unset] [])) (fun X t q => XS.istore X.here C.hx rfl (hb C.hby d14_1) rfl (l' := #[.val (.ref o0), .val (.int (0 : Int32)), .val (.ref o1), .val (.int (0 : Int32)), .val (.int (3 : Int32)), .val (.int (0 : Int32)), .unset]) rfl q) ?_
  refine Wk.st (g' := (mkF m 5 #[.val (.ref o0), .val (.int (0 : Int32)), .val (.ref o1), .val (.int (0 : Int32)), .val (.int (3 : Int32)), .val (.int (0 : Int32)), .unset] [(.int (0 : Int32))])) (fun X t q => XS.iload X.here C.hx rfl (hb C.hby d14_3) rfl q) ?_
  refine Wk.st (g' := (mkF m 7 #[.val (.ref o0), .val (.int (0 : Int32)), .val (.ref o1), .val (.int (0 : Int32)), .val (.int (3 : Int32)), .val (.int (0 : Int32)), .unset] [(.int (3 : Int32)), (.int (0 : Int32))])) (fun X t q => XS.iload X.here C.hx rfl (hb C.hby d14_5) rfl q) ?_
  refine Wk.st (g' := (mkF m 10 #[.val (.ref o0), .val (.int (0 : Int32)), .val (.ref o1), .val (.int (0 : Int32)), .val (.int (3 : Int32)), .val (.int (0 : Int32)), .unset] [])) (fun X t q => XS.icmpNo X.here C.hx rfl (hb C.hby d14_7) rfl (XT.ii_ge_f (by decide)) q) ?_
  refine Wk.st (g' := (mkF m 11 #[.val (.ref o0), .val (.int (0 : Int32)), .val (.ref o1), .val (.int (0 : Int32)), .val (.int (3 : Int32)), .val (.int (0 : Int32)), .unset] [(.ref o0)])) (fun X t q => XS.aloadN X.here C.hx rfl (hb C.hby d14_10) rfl rfl q) ?_
  refine Wk.st (g' := (mkF m 12 #[.val (.ref o0), .val (.int (0 : Int32)), .val (.ref o1), .val (.int (0 : Int32)), .val (.int (3 : Int32)), .val (.int (0 : Int32)), .unset] [(.int (0 : Int32)), (.ref o0)])) (fun X t q => XS.iloadN X.here C.hx rfl (hb C.hby d14_11) rfl q) ?_
  refine Wk.fLdC C P2 (i := 0) (by decide) (by decide) (by decide) (v := (.int x1)) (by simp [up]) d14_12 ?_
  show Wk _ p l e _ s m _ below meth c n0 _ h0 0 0 (mkF m 13 #[.val (.ref o0), .val (.int (0 : Int32)), .val (.ref o1), .val (.int (0 : Int32)), .val (.int (3 : Int32)), .val (.int (0 : Int32)), .unset] [(.int x1)])
  refine Wk.st (g' := (mkF m 15 #[.val (.ref o0), .val (.int (0 : Int32)), .val (.ref o1), .val (.int (0 : Int32)), .val (.int (3 : Int32)), .val (.int (0 : Int32)), .val (.int x1)] [])) (fun X t q => XS.istore X.here C.hx rfl (hb C.hby d14_13) rfl (l' := #[.val (.ref o0), .val (.int (0 : Int32)), .val (.ref o1), .val (.int (0 : Int32)), .val (.int (3 : Int32)), .val (.int (0 : Int32)), .val (.int x1)]) rfl q) ?_
  refine Wk.st (g' := (mkF m 17 #[.val (.ref o0), .val (.int (0 : Int32)), .val (.ref o1), .val (.int (0 : Int32)), .val (.int (3 : Int32)), .val (.int (0 : Int32)), .val (.int x1)] [(.int x1)])) (fun X t q => XS.iload X.here C.hx rfl (hb C.hby d14_15) rfl q) ?_
  refine Wk.st (g' := (mkF m 20 #[.val (.ref o0), .val (.int (0 : Int32)), .val (.ref o1), .val (.int (0 : Int32)), .val (.int (3 : Int32)), .val (.int (0 : Int32)), .val (.int x1)] [(.int (255 : Int32)), (.int x1)])) (fun X t q => XS.sipush X.here C.hx rfl (hb C.hby d14_17) q) ?_
  refine Wk.st (g' := (mkF m 26 #[.val (.ref o0), .val (.int (0 : Int32)), .val (.ref o1), .val (.int (0 : Int32)), .val (.int (3 : Int32)), .val (.int (0 : Int32)), .val (.int x1)] [])) (fun X t q => XS.icmpYes X.here C.hx rfl (pc0 := 20) (pc' := 26) rfl (hb C.hby d14_20) rfl (XT.ii_le_t lat_x1) (by decide) (by decide) q) ?_
  refine Wk.st (g' := (mkF m 27 #[.val (.ref o0), .val (.int (0 : Int32)), .val (.ref o1), .val (.int (0 : Int32)), .val (.int (3 : Int32)), .val (.int (0 : Int32)), .val (.int x1)] [(.ref o1)])) (fun X t q => XS.aloadN X.here C.hx rfl (hb C.hby d14_26) rfl rfl q) ?_
  refine Wk.st (g' := (mkF m 28 #[.val (.ref o0), .val (.int (0 : Int32)), .val (.ref o1), .val (.int (0 : Int32)), .val (.int (3 : Int32)), .val (.int (0 : Int32)), .val (.int x1)] [(.int (0 : Int32)), (.ref o1)])) (fun X t q => XS.iloadN X.here C.hx rfl (hb C.hby d14_27) rfl q) ?_
  refine Wk.st (g' := (mkF m 30 #[.val (.ref o0), .val (.int (0 : Int32)), .val (.ref o1), .val (.int (0 : Int32)), .val (.int (3 : Int32)), .val (.int (0 : Int32)), .val (.int x1)] [(.int x1), (.int (0 : Int32)), (.ref o1)])) (fun X t q => XS.iload X.here C.hx rfl (hb C.hby d14_28) rfl q) ?_
  refine Wk.st (g' := (mkF m 31 #[.val (.ref o0), .val (.int (0 : Int32)), .val (.ref o1), .val (.int (0 : Int32)), .val (.int (3 : Int32)), .val (.int (0 : Int32)), .val (.int x1)] [(.int (x1.toInt8.toInt32)), (.int (0 : Int32)), (.ref o1)])) (fun X t q => XS.i2b X.here C.hx rfl (hb C.hby d14_30) rfl q) ?_
  refine Wk.fStB C P4 (x' := (nar .byte (x1.toInt8.toInt32))) rfl (i := 0) (by decide) (by decide) (by decide) G_o1 d14_31 ?_
  intro h1 W2 F3
  have F4 : Sta Z h1 "java/lang/String" "COMPACT_STRINGS" "Z" (.int x0) := P0.wr W2
  have F5 : Exa Z h1 o0 "[C" := P1.wr W2
  have F6 : Fa Z h1 o0 .char 3 (up (up (up (fun _ => (.int (0 : Int32))) 0 (.int x1)) 1 (.int x2)) 2 (.int x3)) := P2.other W2 N_o0_o1
  have F7 : Exa Z h1 o1 "[B" := P3.wr W2
  have sz8 : n0 ≤ h1.size := Nat.le_trans hsz (Nat.le_of_eq W2.size.symm)
  have sy9 : h0.size ≤ h1.size := Nat.le_trans (Nat.le_refl h0.size) (Nat.le_of_eq W2.size.symm)
  have K10 := (Keep.refl h0 [o1]).wr W2 (Or.inl (by simp))
  show Wk _ p l e _ s m _ below meth c n0 _ h1 0 0 (mkF m 32 #[.val (.ref o0), .val (.int (0 : Int32)), .val (.ref o1), .val (.int (0 : Int32)), .val (.int (3 : Int32)), .val (.int (0 : Int32)), .val (.int x1)] [])
  refine Wk.st (g' := (mkF m 35 #[.val (.ref o0), .val (.int (1 : Int32)), .val (.ref o1), .val (.int (0 : Int32)), .val (.int (3 : Int32)), .val (.int (0 : Int32)), .val (.int x1)] [])) (fun X t q => XS.iinc X.here C.hx rfl (hb C.hby d14_32) rfl (l' := #[.val (.ref o0), .val (.int (1 : Int32)), .val (.ref o1), .val (.int (0 : Int32)), .val (.int (3 : Int32)), .val (.int (0 : Int32)), .val (.int x1)]) rfl q) ?_
  refine Wk.st (g' := (mkF m 38 #[.val (.ref o0), .val (.int (1 : Int32)), .val (.ref o1), .val (.int (1 : Int32)), .val (.int (3 : Int32)), .val (.int (0 : Int32)), .val (.int x1)] [])) (fun X t q => XS.iinc X.here C.hx rfl (hb C.hby d14_35) rfl (l' := #[.val (.ref o0), .val (.int (1 : Int32)), .val (.ref o1), .val (.int (1 : Int32)), .val (.int (3 : Int32)), .val (.int (0 : Int32)), .val (.int x1)]) rfl q) ?_
  refine Wk.st (g' := (mkF m 41 #[.val (.ref o0), .val (.int (1 : Int32)), .val (.ref o1), .val (.int (1 : Int32)), .val (.int (3 : Int32)), .val (.int (1 : Int32)), .val (.int x1)] [])) (fun X t q => XS.iinc X.here C.hx rfl (hb C.hby d14_38) rfl (l' := #[.val (.ref o0), .val (.int (1 : Int32)), .val (.ref o1), .val (.int (1 : Int32)), .val (.int (3 : Int32)), .val (.int (1 : Int32)), .val (.int x1)]) rfl q) ?_
  refine Wk.st (g' := (mkF m 3 #[.val (.ref o0), .val (.int (1 : Int32)), .val (.ref o1), .val (.int (1 : Int32)), .val (.int (3 : Int32)), .val (.int (1 : Int32)), .val (.int x1)] [])) (fun X t q => XS.goto X.here C.hx rfl (pc0 := 41) (pc' := 3) rfl (hb C.hby d14_41) (by decide) (by decide) q) ?_
  refine Wk.st (g' := (mkF m 5 #[.val (.ref o0), .val (.int (1 : Int32)), .val (.ref o1), .val (.int (1 : Int32)), .val (.int (3 : Int32)), .val (.int (1 : Int32)), .val (.int x1)] [(.int (1 : Int32))])) (fun X t q => XS.iload X.here C.hx rfl (hb C.hby d14_3) rfl q) ?_
  refine Wk.st (g' := (mkF m 7 #[.val (.ref o0), .val (.int (1 : Int32)), .val (.ref o1), .val (.int (1 : Int32)), .val (.int (3 : Int32)), .val (.int (1 : Int32)), .val (.int x1)] [(.int (3 : Int32)), (.int (1 : Int32))])) (fun X t q => XS.iload X.here C.hx rfl (hb C.hby d14_5) rfl q) ?_
  refine Wk.st (g' := (mkF m 10 #[.val (.ref o0), .val (.int (1 : Int32)), .val (.ref o1), .val (.int (1 : Int32)), .val (.int (3 : Int32)), .val (.int (1 : Int32)), .val (.int x1)] [])) (fun X t q => XS.icmpNo X.here C.hx rfl (hb C.hby d14_7) rfl (XT.ii_ge_f (by decide)) q) ?_
  refine Wk.st (g' := (mkF m 11 #[.val (.ref o0), .val (.int (1 : Int32)), .val (.ref o1), .val (.int (1 : Int32)), .val (.int (3 : Int32)), .val (.int (1 : Int32)), .val (.int x1)] [(.ref o0)])) (fun X t q => XS.aloadN X.here C.hx rfl (hb C.hby d14_10) rfl rfl q) ?_
  refine Wk.st (g' := (mkF m 12 #[.val (.ref o0), .val (.int (1 : Int32)), .val (.ref o1), .val (.int (1 : Int32)), .val (.int (3 : Int32)), .val (.int (1 : Int32)), .val (.int x1)] [(.int (1 : Int32)), (.ref o0)])) (fun X t q => XS.iloadN X.here C.hx rfl (hb C.hby d14_11) rfl q) ?_
  refine Wk.fLdC C F6 (i := 1) (by decide) (by decide) (by decide) (v := (.int x2)) (by simp [up]) d14_12 ?_
  show Wk _ p l e _ s m _ below meth c n0 _ h1 0 0 (mkF m 13 #[.val (.ref o0), .val (.int (1 : Int32)), .val (.ref o1), .val (.int (1 : Int32)), .val (.int (3 : Int32)), .val (.int (1 : Int32)), .val (.int x1)] [(.int x2)])
  refine Wk.st (g' := (mkF m 15 #[.val (.ref o0), .val (.int (1 : Int32)), .val (.ref o1), .val (.int (1 : Int32)), .val (.int (3 : Int32)), .val (.int (1 : Int32)), .val (.int x2)] [])) (fun X t q => XS.istore X.here C.hx rfl (hb C.hby d14_13) rfl (l' := #[.val (.ref o0), .val (.int (1 : Int32)), .val (.ref o1), .val (.int (1 : Int32)), .val (.int (3 : Int32)), .val (.int (1 : Int32)), .val (.int x2)]) rfl q) ?_
  refine Wk.st (g' := (mkF m 17 #[.val (.ref o0), .val (.int (1 : Int32)), .val (.ref o1), .val (.int (1 : Int32)), .val (.int (3 : Int32)), .val (.int (1 : Int32)), .val (.int x2)] [(.int x2)])) (fun X t q => XS.iload X.here C.hx rfl (hb C.hby d14_15) rfl q) ?_
  refine Wk.st (g' := (mkF m 20 #[.val (.ref o0), .val (.int (1 : Int32)), .val (.ref o1), .val (.int (1 : Int32)), .val (.int (3 : Int32)), .val (.int (1 : Int32)), .val (.int x2)] [(.int (255 : Int32)), (.int x2)])) (fun X t q => XS.sipush X.here C.hx rfl (hb C.hby d14_17) q) ?_
  refine Wk.st (g' := (mkF m 26 #[.val (.ref o0), .val (.int (1 : Int32)), .val (.ref o1), .val (.int (1 : Int32)), .val (.int (3 : Int32)), .val (.int (1 : Int32)), .val (.int x2)] [])) (fun X t q => XS.icmpYes X.here C.hx rfl (pc0 := 20) (pc' := 26) rfl (hb C.hby d14_20) rfl (XT.ii_le_t lat_x2) (by decide) (by decide) q) ?_
  refine Wk.st (g' := (mkF m 27 #[.val (.ref o0), .val (.int (1 : Int32)), .val (.ref o1), .val (.int (1 : Int32)), .val (.int (3 : Int32)), .val (.int (1 : Int32)), .val (.int x2)] [(.ref o1)])) (fun X t q => XS.aloadN X.here C.hx rfl (hb C.hby d14_26) rfl rfl q) ?_
  refine Wk.st (g' := (mkF m 28 #[.val (.ref o0), .val (.int (1 : Int32)), .val (.ref o1), .val (.int (1 : Int32)), .val (.int (3 : Int32)), .val (.int (1 : Int32)), .val (.int x2)] [(.int (1 : Int32)), (.ref o1)])) (fun X t q => XS.iloadN X.here C.hx rfl (hb C.hby d14_27) rfl q) ?_
  refine Wk.st (g' := (mkF m 30 #[.val (.ref o0), .val (.int (1 : Int32)), .val (.ref o1), .val (.int (1 : Int32)), .val (.int (3 : Int32)), .val (.int (1 : Int32)), .val (.int x2)] [(.int x2), (.int (1 : Int32)), (.ref o1)])) (fun X t q => XS.iload X.here C.hx rfl (hb C.hby d14_28) rfl q) ?_
  refine Wk.st (g' := (mkF m 31 #[.val (.ref o0), .val (.int (1 : Int32)), .val (.ref o1), .val (.int (1 : Int32)), .val (.int (3 : Int32)), .val (.int (1 : Int32)), .val (.int x2)] [(.int (x2.toInt8.toInt32)), (.int (1 : Int32)), (.ref o1)])) (fun X t q => XS.i2b X.here C.hx rfl (hb C.hby d14_30) rfl q) ?_
  refine Wk.fStB C F3 (x' := (nar .byte (x2.toInt8.toInt32))) rfl (i := 1) (by decide) (by decide) (by decide) G_o1 d14_31 ?_
  intro h11 W12 F13
  have F14 : Sta Z h11 "java/lang/String" "COMPACT_STRINGS" "Z" (.int x0) := F4.wr W12
  have F15 : Exa Z h11 o0 "[C" := F5.wr W12
  have F16 : Fa Z h11 o0 .char 3 (up (up (up (fun _ => (.int (0 : Int32))) 0 (.int x1)) 1 (.int x2)) 2 (.int x3)) := F6.other W12 N_o0_o1
  have F17 : Exa Z h11 o1 "[B" := F7.wr W12
  have sz18 : n0 ≤ h11.size := Nat.le_trans sz8 (Nat.le_of_eq W12.size.symm)
  have sy19 : h0.size ≤ h11.size := Nat.le_trans sy9 (Nat.le_of_eq W12.size.symm)
  have K20 := K10.wr W12 (Or.inl (by simp))
  show Wk _ p l e _ s m _ below meth c n0 _ h11 0 0 (mkF m 32 #[.val (.ref o0), .val (.int (1 : Int32)), .val (.ref o1), .val (.int (1 : Int32)), .val (.int (3 : Int32)), .val (.int (1 : Int32)), .val (.int x2)] [])
  refine Wk.st (g' := (mkF m 35 #[.val (.ref o0), .val (.int (2 : Int32)), .val (.ref o1), .val (.int (1 : Int32)), .val (.int (3 : Int32)), .val (.int (1 : Int32)), .val (.int x2)] [])) (fun X t q => XS.iinc X.here C.hx rfl (hb C.hby d14_32) rfl (l' := #[.val (.ref o0), .val (.int (2 : Int32)), .val (.ref o1), .val (.int (1 : Int32)), .val (.int (3 : Int32)), .val (.int (1 : Int32)), .val (.int x2)]) rfl q) ?_
  refine Wk.st (g' := (mkF m 38 #[.val (.ref o0), .val (.int (2 : Int32)), .val (.ref o1), .val (.int (2 : Int32)), .val (.int (3 : Int32)), .val (.int (1 : Int32)), .val (.int x2)] [])) (fun X t q => XS.iinc X.here C.hx rfl (hb C.hby d14_35) rfl (l' := #[.val (.ref o0), .val (.int (2 : Int32)), .val (.ref o1), .val (.int (2 : Int32)), .val (.int (3 : Int32)), .val (.int (1 : Int32)), .val (.int x2)]) rfl q) ?_
  refine Wk.st (g' := (mkF m 41 #[.val (.ref o0), .val (.int (2 : Int32)), .val (.ref o1), .val (.int (2 : Int32)), .val (.int (3 : Int32)), .val (.int (2 : Int32)), .val (.int x2)] [])) (fun X t q => XS.iinc X.here C.hx rfl (hb C.hby d14_38) rfl (l' := #[.val (.ref o0), .val (.int (2 : Int32)), .val (.ref o1), .val (.int (2 : Int32)), .val (.int (3 : Int32)), .val (.int (2 : Int32)), .val (.int x2)]) rfl q) ?_
  refine Wk.st (g' := (mkF m 3 #[.val (.ref o0), .val (.int (2 : Int32)), .val (.ref o1), .val (.int (2 : Int32)), .val (.int (3 : Int32)), .val (.int (2 : Int32)), .val (.int x2)] [])) (fun X t q => XS.goto X.here C.hx rfl (pc0 := 41) (pc' := 3) rfl (hb C.hby d14_41) (by decide) (by decide) q) ?_
  refine Wk.st (g' := (mkF m 5 #[.val (.ref o0), .val (.int (2 : Int32)), .val (.ref o1), .val (.int (2 : Int32)), .val (.int (3 : Int32)), .val (.int (2 : Int32)), .val (.int x2)] [(.int (2 : Int32))])) (fun X t q => XS.iload X.here C.hx rfl (hb C.hby d14_3) rfl q) ?_
  refine Wk.st (g' := (mkF m 7 #[.val (.ref o0), .val (.int (2 : Int32)), .val (.ref o1), .val (.int (2 : Int32)), .val (.int (3 : Int32)), .val (.int (2 : Int32)), .val (.int x2)] [(.int (3 : Int32)), (.int (2 : Int32))])) (fun X t q => XS.iload X.here C.hx rfl (hb C.hby d14_5) rfl q) ?_
  refine Wk.st (g' := (mkF m 10 #[.val (.ref o0), .val (.int (2 : Int32)), .val (.ref o1), .val (.int (2 : Int32)), .val (.int (3 : Int32)), .val (.int (2 : Int32)), .val (.int x2)] [])) (fun X t q => XS.icmpNo X.here C.hx rfl (hb C.hby d14_7) rfl (XT.ii_ge_f (by decide)) q) ?_
  refine Wk.st (g' := (mkF m 11 #[.val (.ref o0), .val (.int (2 : Int32)), .val (.ref o1), .val (.int (2 : Int32)), .val (.int (3 : Int32)), .val (.int (2 : Int32)), .val (.int x2)] [(.ref o0)])) (fun X t q => XS.aloadN X.here C.hx rfl (hb C.hby d14_10) rfl rfl q) ?_
  refine Wk.st (g' := (mkF m 12 #[.val (.ref o0), .val (.int (2 : Int32)), .val (.ref o1), .val (.int (2 : Int32)), .val (.int (3 : Int32)), .val (.int (2 : Int32)), .val (.int x2)] [(.int (2 : Int32)), (.ref o0)])) (fun X t q => XS.iloadN X.here C.hx rfl (hb C.hby d14_11) rfl q) ?_
  refine Wk.fLdC C F16 (i := 2) (by decide) (by decide) (by decide) (v := (.int x3)) (by simp [up]) d14_12 ?_
  show Wk _ p l e _ s m _ below meth c n0 _ h11 0 0 (mkF m 13 #[.val (.ref o0), .val (.int (2 : Int32)), .val (.ref o1), .val (.int (2 : Int32)), .val (.int (3 : Int32)), .val (.int (2 : Int32)), .val (.int x2)] [(.int x3)])
  refine Wk.st (g' := (mkF m 15 #[.val (.ref o0), .val (.int (2 : Int32)), .val (.ref o1), .val (.int (2 : Int32)), .val (.int (3 : Int32)), .val (.int (2 : Int32)), .val (.int x3)] [])) (fun X t q => XS.istore X.here C.hx rfl (hb C.hby d14_13) rfl (l' := #[.val (.ref o0), .val (.int (2 : Int32)), .val (.ref o1), .val (.int (2 : Int32)), .val (.int (3 : Int32)), .val (.int (2 : Int32)), .val (.int x3)]) rfl q) ?_
  refine Wk.st (g' := (mkF m 17 #[.val (.ref o0), .val (.int (2 : Int32)), .val (.ref o1), .val (.int (2 : Int32)), .val (.int (3 : Int32)), .val (.int (2 : Int32)), .val (.int x3)] [(.int x3)])) (fun X t q => XS.iload X.here C.hx rfl (hb C.hby d14_15) rfl q) ?_
  refine Wk.st (g' := (mkF m 20 #[.val (.ref o0), .val (.int (2 : Int32)), .val (.ref o1), .val (.int (2 : Int32)), .val (.int (3 : Int32)), .val (.int (2 : Int32)), .val (.int x3)] [(.int (255 : Int32)), (.int x3)])) (fun X t q => XS.sipush X.here C.hx rfl (hb C.hby d14_17) q) ?_
  refine Wk.st (g' := (mkF m 26 #[.val (.ref o0), .val (.int (2 : Int32)), .val (.ref o1), .val (.int (2 : Int32)), .val (.int (3 : Int32)), .val (.int (2 : Int32)), .val (.int x3)] [])) (fun X t q => XS.icmpYes X.here C.hx rfl (pc0 := 20) (pc' := 26) rfl (hb C.hby d14_20) rfl (XT.ii_le_t lat_x3) (by decide) (by decide) q) ?_
  refine Wk.st (g' := (mkF m 27 #[.val (.ref o0), .val (.int (2 : Int32)), .val (.ref o1), .val (.int (2 : Int32)), .val (.int (3 : Int32)), .val (.int (2 : Int32)), .val (.int x3)] [(.ref o1)])) (fun X t q => XS.aloadN X.here C.hx rfl (hb C.hby d14_26) rfl rfl q) ?_
  refine Wk.st (g' := (mkF m 28 #[.val (.ref o0), .val (.int (2 : Int32)), .val (.ref o1), .val (.int (2 : Int32)), .val (.int (3 : Int32)), .val (.int (2 : Int32)), .val (.int x3)] [(.int (2 : Int32)), (.ref o1)])) (fun X t q => XS.iloadN X.here C.hx rfl (hb C.hby d14_27) rfl q) ?_
  refine Wk.st (g' := (mkF m 30 #[.val (.ref o0), .val (.int (2 : Int32)), .val (.ref o1), .val (.int (2 : Int32)), .val (.int (3 : Int32)), .val (.int (2 : Int32)), .val (.int x3)] [(.int x3), (.int (2 : Int32)), (.ref o1)])) (fun X t q => XS.iload X.here C.hx rfl (hb C.hby d14_28) rfl q) ?_
  refine Wk.st (g' := (mkF m 31 #[.val (.ref o0), .val (.int (2 : Int32)), .val (.ref o1), .val (.int (2 : Int32)), .val (.int (3 : Int32)), .val (.int (2 : Int32)), .val (.int x3)] [(.int (x3.toInt8.toInt32)), (.int (2 : Int32)), (.ref o1)])) (fun X t q => XS.i2b X.here C.hx rfl (hb C.hby d14_30) rfl q) ?_
  refine Wk.fStB C F13 (x' := (nar .byte (x3.toInt8.toInt32))) rfl (i := 2) (by decide) (by decide) (by decide) G_o1 d14_31 ?_
  intro h21 W22 F23
  have F24 : Sta Z h21 "java/lang/String" "COMPACT_STRINGS" "Z" (.int x0) := F14.wr W22
  have F25 : Exa Z h21 o0 "[C" := F15.wr W22
  have F26 : Fa Z h21 o0 .char 3 (up (up (up (fun _ => (.int (0 : Int32))) 0 (.int x1)) 1 (.int x2)) 2 (.int x3)) := F16.other W22 N_o0_o1
  have F27 : Exa Z h21 o1 "[B" := F17.wr W22
  have sz28 : n0 ≤ h21.size := Nat.le_trans sz18 (Nat.le_of_eq W22.size.symm)
  have sy29 : h0.size ≤ h21.size := Nat.le_trans sy19 (Nat.le_of_eq W22.size.symm)
  have K30 := K20.wr W22 (Or.inl (by simp))
  show Wk _ p l e _ s m _ below meth c n0 _ h21 0 0 (mkF m 32 #[.val (.ref o0), .val (.int (2 : Int32)), .val (.ref o1), .val (.int (2 : Int32)), .val (.int (3 : Int32)), .val (.int (2 : Int32)), .val (.int x3)] [])
  refine Wk.st (g' := (mkF m 35 #[.val (.ref o0), .val (.int (3 : Int32)), .val (.ref o1), .val (.int (2 : Int32)), .val (.int (3 : Int32)), .val (.int (2 : Int32)), .val (.int x3)] [])) (fun X t q => XS.iinc X.here C.hx rfl (hb C.hby d14_32) rfl (l' := #[.val (.ref o0), .val (.int (3 : Int32)), .val (.ref o1), .val (.int (2 : Int32)), .val (.int (3 : Int32)), .val (.int (2 : Int32)), .val (.int x3)]) rfl q) ?_
  refine Wk.st (g' := (mkF m 38 #[.val (.ref o0), .val (.int (3 : Int32)), .val (.ref o1), .val (.int (3 : Int32)), .val (.int (3 : Int32)), .val (.int (2 : Int32)), .val (.int x3)] [])) (fun X t q => XS.iinc X.here C.hx rfl (hb C.hby d14_35) rfl (l' := #[.val (.ref o0), .val (.int (3 : Int32)), .val (.ref o1), .val (.int (3 : Int32)), .val (.int (3 : Int32)), .val (.int (2 : Int32)), .val (.int x3)]) rfl q) ?_
  refine Wk.st (g' := (mkF m 41 #[.val (.ref o0), .val (.int (3 : Int32)), .val (.ref o1), .val (.int (3 : Int32)), .val (.int (3 : Int32)), .val (.int (3 : Int32)), .val (.int x3)] [])) (fun X t q => XS.iinc X.here C.hx rfl (hb C.hby d14_38) rfl (l' := #[.val (.ref o0), .val (.int (3 : Int32)), .val (.ref o1), .val (.int (3 : Int32)), .val (.int (3 : Int32)), .val (.int (3 : Int32)), .val (.int x3)]) rfl q) ?_
  refine Wk.st (g' := (mkF m 3 #[.val (.ref o0), .val (.int (3 : Int32)), .val (.ref o1), .val (.int (3 : Int32)), .val (.int (3 : Int32)), .val (.int (3 : Int32)), .val (.int x3)] [])) (fun X t q => XS.goto X.here C.hx rfl (pc0 := 41) (pc' := 3) rfl (hb C.hby d14_41) (by decide) (by decide) q) ?_
  refine Wk.st (g' := (mkF m 5 #[.val (.ref o0), .val (.int (3 : Int32)), .val (.ref o1), .val (.int (3 : Int32)), .val (.int (3 : Int32)), .val (.int (3 : Int32)), .val (.int x3)] [(.int (3 : Int32))])) (fun X t q => XS.iload X.here C.hx rfl (hb C.hby d14_3) rfl q) ?_
  refine Wk.st (g' := (mkF m 7 #[.val (.ref o0), .val (.int (3 : Int32)), .val (.ref o1), .val (.int (3 : Int32)), .val (.int (3 : Int32)), .val (.int (3 : Int32)), .val (.int x3)] [(.int (3 : Int32)), (.int (3 : Int32))])) (fun X t q => XS.iload X.here C.hx rfl (hb C.hby d14_5) rfl q) ?_
  refine Wk.st (g' := (mkF m 44 #[.val (.ref o0), .val (.int (3 : Int32)), .val (.ref o1), .val (.int (3 : Int32)), .val (.int (3 : Int32)), .val (.int (3 : Int32)), .val (.int x3)] [])) (fun X t q => XS.icmpYes X.here C.hx rfl (pc0 := 7) (pc' := 44) rfl (hb C.hby d14_7) rfl (XT.ii_ge_t (by decide)) (by decide) (by decide) q) ?_
  refine Wk.st (g' := (mkF m 46 #[.val (.ref o0), .val (.int (3 : Int32)), .val (.ref o1), .val (.int (3 : Int32)), .val (.int (3 : Int32)), .val (.int (3 : Int32)), .val (.int x3)] [(.int (3 : Int32))])) (fun X t q => XS.iload X.here C.hx rfl (hb C.hby d14_44) rfl q) ?_
  exact Wk.retV C (t := .int) rfl rfl (Or.inl ⟨rfl, by simp, _, rfl⟩) d14_46 (by decide) (by decide) ⟨rfl, K30, F24, F23⟩
set_option maxRecDepth 65536 in
set_option maxHeartbeats 40000000 in
theorem own_13_34 (l : Launch) (Z : State) (a0 : Array Value) (hw : ∀ d ∈ tables_1, d.before a0 Z = true) (n0 : Nat) (h0 : Heap) (hsz : n0 ≤ h0.size) (o0 : Addr) (x0 : Int32) (x1 : Int32) (x2 : Int32) (x3 : Int32) (P0 : Sta Z h0 "java/lang/String" "COMPACT_STRINGS" "Z" (.int x0)) (P1 : Exa Z h0 o0 "[C") (P2 : Fa Z h0 o0 .char 3 (up (up (up (fun _ => (.int (0 : Int32))) 0 (.int x1)) 1 (.int x2)) 2 (.int x3))) (G_o0 : n0 ≤ o0) (lat_x1 : ¬ (255 : Int32) < x1) (lat_x2 : ¬ (255 : Int32) < x2) (lat_x3 : ¬ (255 : Int32) < x3) (nz_x0 : ¬ x0 = (0 : Int32)) :
    Met true l Z n0 (⟨"java/lang/StringUTF16", "compress", "([CII)[B"⟩ : MethodName) jdk_52_method_16_code 6 (some (.array .byte)) ({ frames := 1, cells := 1, slots := 3, locals := 18 } : Room) #[(.ref o0), (.int (0 : Int32)), (.int (3 : Int32))] h0 (fun v h => ∃ b2 : Addr, v = some (.ref b2) ∧ Keep h0 h [] ∧ h0.size ≤ b2 ∧ Exa Z h b2 "[B" ∧ Sta Z h "java/lang/String" "COMPACT_STRINGS" "Z" (.int x0) ∧ Fa Z h b2 .byte 3 (up (up (up (fun _ => (.int (0 : Int32))) 0 (.int (nar .byte (x1.toInt8.toInt32)))) 1 (.int (nar .byte (x2.toInt8.toInt32)))) 2 (.int (nar .byte (x3.toInt8.toInt32))))) := by
  refine Met.of (plainFor_of_name pn_5) #[.val (.ref o0), .val (.int (0 : Int32)), .val (.int (3 : Int32)), .unset, .unset, .unset] (fun m => by first | (simp [entryFrame, mkF, argsToLocals, Value.category]; done) | rfl) ?_
  intro p e s m below meth c C
  refine Wk.st (g' := (mkF m 1 #[.val (.ref o0), .val (.int (0 : Int32)), .val (.int (3 : Int32)), .unset, .unset, .unset] [(.int (3 : Int32))])) (fun X t q => XS.iloadN X.here C.hx rfl (hb C.hby d13_0) rfl q) ?_
  refine Wk.fNewP C (hw _ (List.mem_of_getElem? (i := 15) rfl)) (ty := .byte) (dv := (.int (0 : Int32))) (N := 3) (ad := "[B") rfl rfl (by decide) (by decide) (by decide) (cap := 3) (by decide) (by decide) d13_1 (by decide) (by decide) ?_
  intro h1 b2 g3 E4 A5 F6
  have ne7 : o0 ≠ b2 := Nat.ne_of_lt (Nat.lt_of_lt_of_le P1.lt (Nat.le_of_eq g3.symm))
  have ge8 : n0 ≤ b2 := Nat.le_trans hsz (Nat.le_of_eq g3.symm)
  have gz9 : h0.size ≤ b2 := Nat.le_trans (Nat.le_refl h0.size) (Nat.le_of_eq g3.symm)
  have F10 : Sta Z h1 "java/lang/String" "COMPACT_STRINGS" "Z" (.int x0) := P0.ext E4
  have F11 : Exa Z h1 o0 "[C" := P1.ext E4
  have F12 : Fa Z h1 o0 .char 3 (up (up (up (fun _ => (.int (0 : Int32))) 0 (.int x1)) 1 (.int x2)) 2 (.int x3)) := P2.ext E4
  have sz13 : n0 ≤ h1.size := Nat.le_trans hsz E4.1
  have sy14 : h0.size ≤ h1.size := Nat.le_trans (Nat.le_refl h0.size) E4.1
  have K15 := (Keep.refl h0 []).ext E4
  show Wk _ p l e _ s m _ below meth c n0 _ h1 1 3 (mkF m 3 #[.val (.ref o0), .val (.int (0 : Int32)), .val (.int (3 : Int32)), .unset, .unset, .unset] [(.ref b2)])
  refine Wk.st (g' := (mkF m 4 #[.val (.ref o0), .val (.int (0 : Int32)), .val (.int (3 : Int32)), .val (.ref b2), .unset, .unset] [])) (fun X t q => XS.astoreN X.here C.hx rfl (hb C.hby d13_3) rfl rfl (l' := #[.val (.ref o0), .val (.int (0 : Int32)), .val (.int (3 : Int32)), .val (.ref b2), .unset, .unset]) rfl q) ?_
  refine Wk.st (g' := (mkF m 5 #[.val (.ref o0), .val (.int (0 : Int32)), .val (.int (3 : Int32)), .val (.ref b2), .unset, .unset] [(.ref o0)])) (fun X t q => XS.aloadN X.here C.hx rfl (hb C.hby d13_4) rfl rfl q) ?_
  refine Wk.st (g' := (mkF m 6 #[.val (.ref o0), .val (.int (0 : Int32)), .val (.int (3 : Int32)), .val (.ref b2), .unset, .unset] [(.int (0 : Int32)), (.ref o0)])) (fun X t q => XS.iloadN X.here C.hx rfl (hb C.hby d13_5) rfl q) ?_
  refine Wk.st (g' := (mkF m 7 #[.val (.ref o0), .val (.int (0 : Int32)), .val (.int (3 : Int32)), .val (.ref b2), .unset, .unset] [(.ref b2), (.int (0 : Int32)), (.ref o0)])) (fun X t q => XS.aloadN X.here C.hx rfl (hb C.hby d13_6) rfl rfl q) ?_
  refine Wk.st (g' := (mkF m 8 #[.val (.ref o0), .val (.int (0 : Int32)), .val (.int (3 : Int32)), .val (.ref b2), .unset, .unset] [(.int (0 : Int32)), (.ref b2), (.int (0 : Int32)), (.ref o0)])) (fun X t q => XS.iconst X.here C.hx rfl (hb C.hby d13_7) q) ?_
  refine Wk.st (g' := (mkF m 9 #[.val (.ref o0), .val (.int (0 : Int32)), .val (.int (3 : Int32)), .val (.ref b2), .unset, .unset] [(.int (3 : Int32)), (.int (0 : Int32)), (.ref b2), (.int (0 : Int32)), (.ref o0)])) (fun X t q => XS.iloadN X.here C.hx rfl (hb C.hby d13_8) rfl q) ?_
  refine Wk.callS C (z := (⟨"java/lang/StringUTF16", "compress", "([CI[BII)I"⟩ : MethodName)) (hw _ (List.mem_of_getElem? (i := 80) rfl)) (hw _ (List.mem_of_getElem? (i := 81) rfl)) (hw _ (List.mem_of_getElem? (i := 78) rfl)) (hw _ (List.mem_of_getElem? (i := 82) rfl)) (by decide) (own_14_34 l Z a0 hw n0 h1 sz13 o0 b2 x0 x1 x2 x3 F10 F11 F12 A5 F6 ne7 G_o0 ge8 lat_x1 lat_x2 lat_x3 nz_x0) (w := 0) (by decide) (by decide) pd_15 rfl (rest := []) rfl rfl (Nat.le_of_eq rfl) (by decide) (by decide) d13_9 ?_
  rintro _ h17 ⟨rfl, K18, F19, F20⟩
  show Wk _ p l e _ s m _ below meth c n0 _ h17 1 3 (mkF m 12 #[.val (.ref o0), .val (.int (0 : Int32)), .val (.int (3 : Int32)), .val (.ref b2), .unset, .unset] [(.int (3 : Int32))])
  have F21 : Exa Z h17 o0 "[C" := F11.keep K18
  have F22 : Fa Z h17 o0 .char 3 (up (up (up (fun _ => (.int (0 : Int32))) 0 (.int x1)) 1 (.int x2)) 2 (.int x3)) := F12.keep K18 (nmS ne7 nm0)
  have F23 : Exa Z h17 b2 "[B" := A5.keep K18
  have sz24 : n0 ≤ h17.size := Nat.le_trans sz13 K18.1
  have K25 := K15.trans K18 (nvS (Or.inr gz9) nv0)
  have sy26 : h0.size ≤ h17.size := Nat.le_trans sy14 K18.1
  refine Wk.st (g' := (mkF m 14 #[.val (.ref o0), .val (.int (0 : Int32)), .val (.int (3 : Int32)), .val (.ref b2), .val (.int (3 : Int32)), .unset] [])) (fun X t q => XS.istore X.here C.hx rfl (hb C.hby d13_12) rfl (l' := #[.val (.ref o0), .val (.int (0 : Int32)), .val (.int (3 : Int32)), .val (.ref b2), .val (.int (3 : Int32)), .unset]) rfl q) ?_
  refine Wk.st (g' := (mkF m 16 #[.val (.ref o0), .val (.int (0 : Int32)), .val (.int (3 : Int32)), .val (.ref b2), .val (.int (3 : Int32)), .unset] [(.int (3 : Int32))])) (fun X t q => XS.iload X.here C.hx rfl (hb C.hby d13_14) rfl q) ?_
  refine Wk.st (g' := (mkF m 17 #[.val (.ref o0), .val (.int (0 : Int32)), .val (.int (3 : Int32)), .val (.ref b2), .val (.int (3 : Int32)), .unset] [(.int (3 : Int32)), (.int (3 : Int32))])) (fun X t q => XS.iloadN X.here C.hx rfl (hb C.hby d13_16) rfl q) ?_
  refine Wk.st (g' := (mkF m 57 #[.val (.ref o0), .val (.int (0 : Int32)), .val (.int (3 : Int32)), .val (.ref b2), .val (.int (3 : Int32)), .unset] [])) (fun X t q => XS.icmpYes X.here C.hx rfl (pc0 := 17) (pc' := 57) rfl (hb C.hby d13_17) rfl (XT.ii_eq_t (by decide)) (by decide) (by decide) q) ?_
  refine Wk.st (g' := (mkF m 58 #[.val (.ref o0), .val (.int (0 : Int32)), .val (.int (3 : Int32)), .val (.ref b2), .val (.int (3 : Int32)), .unset] [(.ref b2)])) (fun X t q => XS.aloadN X.here C.hx rfl (hb C.hby d13_57) rfl rfl q) ?_
  exact Wk.retV C (t := (.array .byte)) rfl rfl (Or.inr (Or.inr (Or.inr (Or.inr ⟨rfl, rfl, rfl⟩)))) d13_58 (by decide) (by decide) ⟨b2, rfl, K25, gz9, F23, F19, F20⟩
set_option maxRecDepth 65536 in
set_option maxHeartbeats 40000000 in
theorem own_15_36 (l : Launch) (Z : State) (a0 : Array Value) (hw : ∀ d ∈ tables_1, d.before a0 Z = true) (n0 : Nat) (h0 : Heap) (hsz : n0 ≤ h0.size) (o0 : Addr) (x0 : Int32) (x1 : Int32) (x2 : Int32) (x3 : Int32) (P0 : Exa Z h0 o0 "[B") (P1 : Sta Z h0 "java/lang/String" "COMPACT_STRINGS" "Z" (.int x0)) (P2 : Fa Z h0 o0 .byte 3 (up (up (up (fun _ => (.int (0 : Int32))) 0 (.int x1)) 1 (.int x2)) 2 (.int x3))) (G_o0 : n0 ≤ o0) (nz_x0 : ¬ x0 = (0 : Int32)) :
    Met true l Z n0 (⟨"java/lang/StringUTF16", "coderFromArrayLen", "([BI)B"⟩ : MethodName) jdk_52_method_15_code 2 (some .byte) ({ frames := 0, cells := 0, slots := 0, locals := 0 } : Room) #[(.ref o0), (.int (3 : Int32))] h0 (fun v h => v = some (.int (0 : Int32)) ∧ h0 = h) := by
  refine Met.of (plainFor_of_name pn_5) #[.val (.ref o0), .val (.int (3 : Int32))] (fun m => by first | (simp [entryFrame, mkF, argsToLocals, Value.category]; done) | rfl) ?_
  intro p e s m below meth c C
  refine Wk.st (g' := (mkF m 1 #[.val (.ref o0), .val (.int (3 : Int32))] [(.int (3 : Int32))])) (fun X t q => XS.iloadN X.here C.hx rfl (hb C.hby d15_0) rfl q) ?_
  refine Wk.st (g' := (mkF m 2 #[.val (.ref o0), .val (.int (3 : Int32))] [(.ref o0), (.int (3 : Int32))])) (fun X t q => XS.aloadN X.here C.hx rfl (hb C.hby d15_1) rfl rfl q) ?_
  refine Wk.fLen C P2 (z := (3 : Int32)) (by decide) d15_2 ?_
  show Wk _ p l e _ s m _ below meth c n0 _ h0 0 0 (mkF m 3 #[.val (.ref o0), .val (.int (3 : Int32))] [(.int (3 : Int32)), (.int (3 : Int32))])
  refine Wk.st (g' := (mkF m 4 #[.val (.ref o0), .val (.int (3 : Int32))] [(.int (0 : Int32))])) (fun X t q => XS.isub X.here C.hx rfl (hb C.hby d15_3) rfl q) ?_
  refine Wk.st (g' := (mkF m 6 #[.val (.ref o0), .val (.int (3 : Int32))] [(.int (31 : Int32)), (.int (0 : Int32))])) (fun X t q => XS.bipush X.here C.hx rfl (hb C.hby d15_4) q) ?_
  refine Wk.st (g' := (mkF m 7 #[.val (.ref o0), .val (.int (3 : Int32))] [(.int (0 : Int32))])) (fun X t q => XS.iushr X.here C.hx rfl (hb C.hby d15_6) rfl q) ?_
  refine Wk.st (g' := (mkF m 8 #[.val (.ref o0), .val (.int (3 : Int32))] [(.int (0 : Int32))])) (fun X t q => XS.i2b X.here C.hx rfl (hb C.hby d15_7) rfl q) ?_
  exact Wk.retV C (t := .byte) rfl rfl (Or.inl ⟨rfl, by simp, _, rfl⟩) d15_8 (by decide) (by decide) ⟨rfl, rfl⟩
set_option maxRecDepth 65536 in
set_option maxHeartbeats 40000000 in
theorem own_2_34 (l : Launch) (Z : State) (a0 : Array Value) (hw : ∀ d ∈ tables_1, d.before a0 Z = true) (n0 : Nat) (h0 : Heap) (hsz : n0 ≤ h0.size) (o0 : Addr) (o1 : Addr) (x0 : Int32) (x1 : Int32) (x2 : Int32) (x3 : Int32) (P0 : Sta Z h0 "java/lang/String" "COMPACT_STRINGS" "Z" (.int x0)) (P1 : Exa Z h0 o0 "java/lang/String") (P2 : Fld Z h0 o0 "java/lang/String" "value" "[B" .null) (P3 : Fld Z h0 o0 "java/lang/String" "coder" "B" (.int (0 : Int32))) (P4 : Exa Z h0 o1 "[C") (P5 : Fa Z h0 o1 .char 3 (up (up (up (fun _ => (.int (0 : Int32))) 0 (.int x1)) 1 (.int x2)) 2 (.int x3))) (N_o0_o1 : o0 ≠ o1) (G_o0 : n0 ≤ o0) (G_o1 : n0 ≤ o1) (lat_x1 : ¬ (255 : Int32) < x1) (lat_x2 : ¬ (255 : Int32) < x2) (lat_x3 : ¬ (255 : Int32) < x3) (nz_x0 : ¬ x0 = (0 : Int32)) :
    Met true l Z n0 (⟨"java/lang/String", "<init>", "([CIILjava/lang/Void;)V"⟩ : MethodName) jdk_42_method_149_code 6 none ({ frames := 2, cells := 1, slots := 3, locals := 35 } : Room) #[(.ref o0), (.ref o1), (.int (0 : Int32)), (.int (3 : Int32)), .null] h0 (fun v h => ∃ n1_b2 : Addr, v = none ∧ Keep h0 h [o0] ∧ h0.size ≤ n1_b2 ∧ Exa Z h n1_b2 "[B" ∧ Sta Z h "java/lang/String" "COMPACT_STRINGS" "Z" (.int x0) ∧ Fa Z h n1_b2 .byte 3 (up (up (up (fun _ => (.int (0 : Int32))) 0 (.int (nar .byte (x1.toInt8.toInt32)))) 1 (.int (nar .byte (x2.toInt8.toInt32)))) 2 (.int (nar .byte (x3.toInt8.toInt32)))) ∧ Fld Z h o0 "java/lang/String" "coder" "B" (.int (0 : Int32)) ∧ Fld Z h o0 "java/lang/String" "value" "[B" (.ref n1_b2)) := by
  refine Met.of (plainFor_of_name pn_0) #[.val (.ref o0), .val (.ref o1), .val (.int (0 : Int32)), .val (.int (3 : Int32)), .val .null, .unset] (fun m => by first | (simp [entryFrame, mkF, argsToLocals, Value.category]; done) | rfl) ?_
  intro p e s m below meth c C
  refine Wk.st (g' := (mkF m 1 #[.val (.ref o0), .val (.ref o1), .val (.int (0 : Int32)), .val (.int (3 : Int32)), .val .null, .unset] [(.ref o0)])) (fun X t q => XS.aloadN X.here C.hx rfl (hb C.hby d2_0) rfl rfl q) ?_
  refine Wk.initO C (hw _ (List.mem_of_getElem? (i := 11) rfl)) (hw _ (List.mem_of_getElem? (i := 12) rfl)) (hw _ (List.mem_of_getElem? (i := 13) rfl)) (w := 0) rfl d2_1 (by decide) (Nat.le_of_eq rfl) (by decide) ?_
  show Wk _ p l e _ s m _ below meth c n0 _ h0 0 0 (mkF m 4 #[.val (.ref o0), .val (.ref o1), .val (.int (0 : Int32)), .val (.int (3 : Int32)), .val .null, .unset] [])
  refine Wk.st (g' := (mkF m 5 #[.val (.ref o0), .val (.ref o1), .val (.int (0 : Int32)), .val (.int (3 : Int32)), .val .null, .unset] [(.int (3 : Int32))])) (fun X t q => XS.iloadN X.here C.hx rfl (hb C.hby d2_4) rfl q) ?_
  refine Wk.st (g' := (mkF m 27 #[.val (.ref o0), .val (.ref o1), .val (.int (0 : Int32)), .val (.int (3 : Int32)), .val .null, .unset] [])) (fun X t q => XS.ifYes X.here C.hx rfl (pc0 := 5) (pc' := 27) rfl (hb C.hby d2_5) rfl (XT.i0_ne_t (by decide)) (by decide) (by decide) q) ?_
  refine Wk.getS C (hw _ (List.mem_of_getElem? (i := 75) rfl)) P0 d2_27 ?_
  show Wk _ p l e _ s m _ below meth c n0 _ h0 0 0 (mkF m 30 #[.val (.ref o0), .val (.ref o1), .val (.int (0 : Int32)), .val (.int (3 : Int32)), .val .null, .unset] [(.int x0)])
  refine Wk.st (g' := (mkF m 33 #[.val (.ref o0), .val (.ref o1), .val (.int (0 : Int32)), .val (.int (3 : Int32)), .val .null, .unset] [])) (fun X t q => XS.ifNo X.here C.hx rfl (hb C.hby d2_30) rfl (XT.i0_eq_f nz_x0) q) ?_
  refine Wk.st (g' := (mkF m 34 #[.val (.ref o0), .val (.ref o1), .val (.int (0 : Int32)), .val (.int (3 : Int32)), .val .null, .unset] [(.ref o1)])) (fun X t q => XS.aloadN X.here C.hx rfl (hb C.hby d2_33) rfl rfl q) ?_
  refine Wk.st (g' := (mkF m 35 #[.val (.ref o0), .val (.ref o1), .val (.int (0 : Int32)), .val (.int (3 : Int32)), .val .null, .unset] [(.int (0 : Int32)), (.ref o1)])) (fun X t q => XS.iloadN X.here C.hx rfl (hb C.hby d2_34) rfl q) ?_
  refine Wk.st (g' := (mkF m 36 #[.val (.ref o0), .val (.ref o1), .val (.int (0 : Int32)), .val (.int (3 : Int32)), .val .null, .unset] [(.int (3 : Int32)), (.int (0 : Int32)), (.ref o1)])) (fun X t q => XS.iloadN X.here C.hx rfl (hb C.hby d2_35) rfl q) ?_
  refine Wk.callS C (z := (⟨"java/lang/StringUTF16", "compress", "([CII)[B"⟩ : MethodName)) (hw _ (List.mem_of_getElem? (i := 76) rfl)) (hw _ (List.mem_of_getElem? (i := 77) rfl)) (hw _ (List.mem_of_getElem? (i := 78) rfl)) (hw _ (List.mem_of_getElem? (i := 79) rfl)) (by decide) (own_13_34 l Z a0 hw n0 h0 hsz o1 x0 x1 x2 x3 P0 P4 P5  G_o1 lat_x1 lat_x2 lat_x3 nz_x0) (w := 0) (by decide) (by decide) pd_14 rfl (rest := []) rfl rfl (Nat.le_of_eq rfl) (by decide) (by decide) d2_36 ?_
  rintro _ h2 ⟨n1_b2, rfl, K3, gn7, F4, F5, F6⟩
  show Wk _ p l e _ s m _ below meth c n0 _ h2 1 3 (mkF m 39 #[.val (.ref o0), .val (.ref o1), .val (.int (0 : Int32)), .val (.int (3 : Int32)), .val .null, .unset] [(.ref n1_b2)])
  have ne8 : o0 ≠ n1_b2 := Nat.ne_of_lt (Nat.lt_of_lt_of_le P1.lt gn7)
  have ne9 : o1 ≠ n1_b2 := Nat.ne_of_lt (Nat.lt_of_lt_of_le P4.lt gn7)
  have ge10 : n0 ≤ n1_b2 := Nat.le_trans hsz gn7
  have gz11 : h0.size ≤ n1_b2 := Nat.le_trans (Nat.le_refl h0.size) gn7
  have F12 : Exa Z h2 o0 "java/lang/String" := P1.keep K3
  have F13 : Fld Z h2 o0 "java/lang/String" "value" "[B" .null := P2.keep K3 nm0
  have F14 : Fld Z h2 o0 "java/lang/String" "coder" "B" (.int (0 : Int32)) := P3.keep K3 nm0
  have F15 : Exa Z h2 o1 "[C" := P4.keep K3
  have F16 : Fa Z h2 o1 .char 3 (up (up (up (fun _ => (.int (0 : Int32))) 0 (.int x1)) 1 (.int x2)) 2 (.int x3)) := P5.keep K3 nm0
  have sz17 : n0 ≤ h2.size := Nat.le_trans hsz K3.1
  have K18 := (Keep.refl h0 [o0]).trans K3 nv0
  have sy19 : h0.size ≤ h2.size := Nat.le_trans (Nat.le_refl h0.size) K3.1
  refine Wk.st (g' := (mkF m 41 #[.val (.ref o0), .val (.ref o1), .val (.int (0 : Int32)), .val (.int (3 : Int32)), .val .null, .val (.ref n1_b2)] [])) (fun X t q => XS.astore X.here C.hx rfl (hb C.hby d2_39) rfl rfl (l' := #[.val (.ref o0), .val (.ref o1), .val (.int (0 : Int32)), .val (.int (3 : Int32)), .val .null, .val (.ref n1_b2)]) rfl q) ?_
  refine Wk.st (g' := (mkF m 42 #[.val (.ref o0), .val (.ref o1), .val (.int (0 : Int32)), .val (.int (3 : Int32)), .val .null, .val (.ref n1_b2)] [(.ref o0)])) (fun X t q => XS.aloadN X.here C.hx rfl (hb C.hby d2_41) rfl rfl q) ?_
  refine Wk.st (g' := (mkF m 44 #[.val (.ref o0), .val (.ref o1), .val (.int (0 : Int32)), .val (.int (3 : Int32)), .val .null, .val (.ref n1_b2)] [(.ref n1_b2), (.ref o0)])) (fun X t q => XS.aload X.here C.hx rfl (hb C.hby d2_42) rfl rfl q) ?_
  refine Wk.st (g' := (mkF m 45 #[.val (.ref o0), .val (.ref o1), .val (.int (0 : Int32)), .val (.int (3 : Int32)), .val .null, .val (.ref n1_b2)] [(.int (3 : Int32)), (.ref n1_b2), (.ref o0)])) (fun X t q => XS.iloadN X.here C.hx rfl (hb C.hby d2_44) rfl q) ?_
  refine Wk.callS C (z := (⟨"java/lang/StringUTF16", "coderFromArrayLen", "([BI)B"⟩ : MethodName)) (hw _ (List.mem_of_getElem? (i := 83) rfl)) (hw _ (List.mem_of_getElem? (i := 84) rfl)) (hw _ (List.mem_of_getElem? (i := 78) rfl)) (hw _ (List.mem_of_getElem? (i := 85) rfl)) (by decide) (own_15_36 l Z a0 hw n0 h2 sz17 n1_b2 x0 (nar .byte (x1.toInt8.toInt32)) (nar .byte (x2.toInt8.toInt32)) (nar .byte (x3.toInt8.toInt32)) F4 F5 F6  ge10 nz_x0) (w := 1) (by decide) (by decide) pd_16 rfl (rest := [(.ref o0)]) rfl rfl (Nat.le_of_eq rfl) (by decide) (by decide) d2_45 ?_
  rintro _ _ ⟨rfl, rfl⟩
  show Wk _ p l e _ s m _ below meth c n0 _ h2 1 3 (mkF m 48 #[.val (.ref o0), .val (.ref o1), .val (.int (0 : Int32)), .val (.int (3 : Int32)), .val .null, .val (.ref n1_b2)] [(.int (0 : Int32)), (.ref o0)])
  refine Wk.putF C (hw _ (List.mem_of_getElem? (i := 21) rfl)) Via.refl F14 F12 (Or.inr ⟨(hw _ (List.mem_of_getElem? (i := 17) rfl)), rfl, rfl⟩) (hw _ (List.mem_of_getElem? (i := 1) rfl)) (ty := .byte) (by decide) (v' := (.int (0 : Int32))) rfl (by decide) G_o0 d2_48 ?_
  intro h23 W24
  have F25 : Fld Z h23 o0 "java/lang/String" "coder" "B" (.int (0 : Int32)) := F14.same W24
  have F26 : Exa Z h23 o0 "java/lang/String" := F12.wr W24
  have F27 : Fld Z h23 o0 "java/lang/String" "value" "[B" .null := F13.other W24 (Or.inr (slot_ne (Or.inr (hw _ (List.mem_of_getElem? (i := 16) rfl))) (Or.inr (hw _ (List.mem_of_getElem? (i := 17) rfl))) (by decide) (t := (.array .byte)) (t' := .byte) (by decide) (by decide)))
  have F28 : Exa Z h23 o1 "[C" := F15.wr W24
  have F29 : Fa Z h23 o1 .char 3 (up (up (up (fun _ => (.int (0 : Int32))) 0 (.int x1)) 1 (.int x2)) 2 (.int x3)) := F16.other W24 (Ne.symm N_o0_o1)
  have F30 : Exa Z h23 n1_b2 "[B" := F4.wr W24
  have F31 : Sta Z h23 "java/lang/String" "COMPACT_STRINGS" "Z" (.int x0) := F5.wr W24
  have F32 : Fa Z h23 n1_b2 .byte 3 (up (up (up (fun _ => (.int (0 : Int32))) 0 (.int (nar .byte (x1.toInt8.toInt32)))) 1 (.int (nar .byte (x2.toInt8.toInt32)))) 2 (.int (nar .byte (x3.toInt8.toInt32)))) := F6.other W24 (Ne.symm ne8)
  have sz33 : n0 ≤ h23.size := Nat.le_trans sz17 (Nat.le_of_eq W24.size.symm)
  have sy34 : h0.size ≤ h23.size := Nat.le_trans sy19 (Nat.le_of_eq W24.size.symm)
  have K35 := K18.wr W24 (Or.inl (by simp))
  show Wk _ p l e _ s m _ below meth c n0 _ h23 1 3 (mkF m 51 #[.val (.ref o0), .val (.ref o1), .val (.int (0 : Int32)), .val (.int (3 : Int32)), .val .null, .val (.ref n1_b2)] [])
  refine Wk.st (g' := (mkF m 52 #[.val (.ref o0), .val (.ref o1), .val (.int (0 : Int32)), .val (.int (3 : Int32)), .val .null, .val (.ref n1_b2)] [(.ref o0)])) (fun X t q => XS.aloadN X.here C.hx rfl (hb C.hby d2_51) rfl rfl q) ?_
  refine Wk.st (g' := (mkF m 54 #[.val (.ref o0), .val (.ref o1), .val (.int (0 : Int32)), .val (.int (3 : Int32)), .val .null, .val (.ref n1_b2)] [(.ref n1_b2), (.ref o0)])) (fun X t q => XS.aload X.here C.hx rfl (hb C.hby d2_52) rfl rfl q) ?_
  refine Wk.putF C (hw _ (List.mem_of_getElem? (i := 20) rfl)) Via.refl F27 F26 (Or.inr ⟨(hw _ (List.mem_of_getElem? (i := 16) rfl)), rfl, rfl⟩) (hw _ (List.mem_of_getElem? (i := 1) rfl)) (ty := (.array .byte)) (by decide) (v' := (.ref n1_b2)) rfl rfl G_o0 d2_54 ?_
  intro h36 W37
  have F38 : Fld Z h36 o0 "java/lang/String" "value" "[B" (.ref n1_b2) := F27.same W37
  have F39 : Exa Z h36 o0 "java/lang/String" := F26.wr W37
  have F40 : Exa Z h36 o1 "[C" := F28.wr W37
  have F41 : Fa Z h36 o1 .char 3 (up (up (up (fun _ => (.int (0 : Int32))) 0 (.int x1)) 1 (.int x2)) 2 (.int x3)) := F29.other W37 (Ne.symm N_o0_o1)
  have F42 : Exa Z h36 n1_b2 "[B" := F30.wr W37
  have F43 : Sta Z h36 "java/lang/String" "COMPACT_STRINGS" "Z" (.int x0) := F31.wr W37
  have F44 : Fa Z h36 n1_b2 .byte 3 (up (up (up (fun _ => (.int (0 : Int32))) 0 (.int (nar .byte (x1.toInt8.toInt32)))) 1 (.int (nar .byte (x2.toInt8.toInt32)))) 2 (.int (nar .byte (x3.toInt8.toInt32)))) := F32.other W37 (Ne.symm ne8)
  have F45 : Fld Z h36 o0 "java/lang/String" "coder" "B" (.int (0 : Int32)) := F25.other W37 (Or.inr (slot_ne (Or.inr (hw _ (List.mem_of_getElem? (i := 17) rfl))) (Or.inr (hw _ (List.mem_of_getElem? (i := 16) rfl))) (by decide) (t := .byte) (t' := (.array .byte)) (by decide) (by decide)))
  have sz46 : n0 ≤ h36.size := Nat.le_trans sz33 (Nat.le_of_eq W37.size.symm)
  have sy47 : h0.size ≤ h36.size := Nat.le_trans sy34 (Nat.le_of_eq W37.size.symm)
  have K48 := K35.wr W37 (Or.inl (by simp))
  show Wk _ p l e _ s m _ below meth c n0 _ h36 1 3 (mkF m 57 #[.val (.ref o0), .val (.ref o1), .val (.int (0 : Int32)), .val (.int (3 : Int32)), .val .null, .val (.ref n1_b2)] [])
  exact Wk.retN0 C rfl d2_57 (by decide) (by decide) ⟨n1_b2, rfl, K48, gz11, F42, F43, F44, F45, F38⟩
set_option maxRecDepth 65536 in
set_option maxHeartbeats 40000000 in
theorem own_1_34 (l : Launch) (Z : State) (a0 : Array Value) (hw : ∀ d ∈ tables_1, d.before a0 Z = true) (n0 : Nat) (h0 : Heap) (hsz : n0 ≤ h0.size) (o0 : Addr) (o1 : Addr) (x0 : Int32) (x1 : Int32) (x2 : Int32) (x3 : Int32) (P0 : Sta Z h0 "java/lang/String" "COMPACT_STRINGS" "Z" (.int x0)) (P1 : Exa Z h0 o0 "java/lang/String") (P2 : Fld Z h0 o0 "java/lang/String" "value" "[B" .null) (P3 : Fld Z h0 o0 "java/lang/String" "coder" "B" (.int (0 : Int32))) (P4 : Exa Z h0 o1 "[C") (P5 : Fa Z h0 o1 .char 3 (up (up (up (fun _ => (.int (0 : Int32))) 0 (.int x1)) 1 (.int x2)) 2 (.int x3))) (N_o0_o1 : o0 ≠ o1) (G_o0 : n0 ≤ o0) (G_o1 : n0 ≤ o1) (lat_x1 : ¬ (255 : Int32) < x1) (lat_x2 : ¬ (255 : Int32) < x2) (lat_x3 : ¬ (255 : Int32) < x3) (nz_x0 : ¬ x0 = (0 : Int32)) :
    Met true l Z n0 (⟨"java/lang/String", "<init>", "([C)V"⟩ : MethodName) jdk_42_method_3_code 2 none ({ frames := 3, cells := 1, slots := 3, locals := 52 } : Room) #[(.ref o0), (.ref o1)] h0 (fun v h => ∃ n1_n1_b2 : Addr, v = none ∧ Keep h0 h [o0] ∧ h0.size ≤ n1_n1_b2 ∧ Exa Z h n1_n1_b2 "[B" ∧ Sta Z h "java/lang/String" "COMPACT_STRINGS" "Z" (.int x0) ∧ Fa Z h n1_n1_b2 .byte 3 (up (up (up (fun _ => (.int (0 : Int32))) 0 (.int (nar .byte (x1.toInt8.toInt32)))) 1 (.int (nar .byte (x2.toInt8.toInt32)))) 2 (.int (nar .byte (x3.toInt8.toInt32)))) ∧ Fld Z h o0 "java/lang/String" "coder" "B" (.int (0 : Int32)) ∧ Fld Z h o0 "java/lang/String" "value" "[B" (.ref n1_n1_b2)) := by
  refine Met.of (plainFor_of_name pn_0) #[.val (.ref o0), .val (.ref o1)] (fun m => by first | (simp [entryFrame, mkF, argsToLocals, Value.category]; done) | rfl) ?_
  intro p e s m below meth c C
  refine Wk.st (g' := (mkF m 1 #[.val (.ref o0), .val (.ref o1)] [(.ref o0)])) (fun X t q => XS.aloadN X.here C.hx rfl (hb C.hby d1_0) rfl rfl q) ?_
  refine Wk.st (g' := (mkF m 2 #[.val (.ref o0), .val (.ref o1)] [(.ref o1), (.ref o0)])) (fun X t q => XS.aloadN X.here C.hx rfl (hb C.hby d1_1) rfl rfl q) ?_
  refine Wk.st (g' := (mkF m 3 #[.val (.ref o0), .val (.ref o1)] [(.int (0 : Int32)), (.ref o1), (.ref o0)])) (fun X t q => XS.iconst X.here C.hx rfl (hb C.hby d1_2) q) ?_
  refine Wk.st (g' := (mkF m 4 #[.val (.ref o0), .val (.ref o1)] [(.ref o1), (.int (0 : Int32)), (.ref o1), (.ref o0)])) (fun X t q => XS.aloadN X.here C.hx rfl (hb C.hby d1_3) rfl rfl q) ?_
  refine Wk.fLen C P5 (z := (3 : Int32)) (by decide) d1_4 ?_
  show Wk _ p l e _ s m _ below meth c n0 _ h0 0 0 (mkF m 5 #[.val (.ref o0), .val (.ref o1)] [(.int (3 : Int32)), (.int (0 : Int32)), (.ref o1), (.ref o0)])
  refine Wk.st (g' := (mkF m 6 #[.val (.ref o0), .val (.ref o1)] [.null, (.int (3 : Int32)), (.int (0 : Int32)), (.ref o1), (.ref o0)])) (fun X t q => XS.aconstNull X.here C.hx rfl (hb C.hby d1_5) q) ?_
  refine Wk.callI C (z := (⟨"java/lang/String", "<init>", "([CIILjava/lang/Void;)V"⟩ : MethodName)) rfl (hw _ (List.mem_of_getElem? (i := 7) rfl)) (hw _ (List.mem_of_getElem? (i := 8) rfl)) (hw _ (List.mem_of_getElem? (i := 2) rfl)) (hw _ (List.mem_of_getElem? (i := 10) rfl)) (by decide) (own_2_34 l Z a0 hw n0 h0 hsz o0 o1 x0 x1 x2 x3 P0 P1 P2 P3 P4 P5 N_o0_o1 G_o0 G_o1 lat_x1 lat_x2 lat_x3 nz_x0) (w := 0) (by decide) (by decide) pd_0 rfl (rest := []) rfl rfl (Nat.le_of_eq rfl) (by decide) (by decide) d1_6 ?_
  rintro _ h2 ⟨n1_n1_b2, rfl, K3, gn9, F4, F5, F6, F7, F8⟩
  show Wk _ p l e _ s m _ below meth c n0 _ h2 1 3 (mkF m 9 #[.val (.ref o0), .val (.ref o1)] [])
  have ne10 : o0 ≠ n1_n1_b2 := Nat.ne_of_lt (Nat.lt_of_lt_of_le P1.lt gn9)
  have ne11 : o1 ≠ n1_n1_b2 := Nat.ne_of_lt (Nat.lt_of_lt_of_le P4.lt gn9)
  have ge12 : n0 ≤ n1_n1_b2 := Nat.le_trans hsz gn9
  have gz13 : h0.size ≤ n1_n1_b2 := Nat.le_trans (Nat.le_refl h0.size) gn9
  have F14 : Exa Z h2 o0 "java/lang/String" := P1.keep K3
  have F15 : Exa Z h2 o1 "[C" := P4.keep K3
  have F16 : Fa Z h2 o1 .char 3 (up (up (up (fun _ => (.int (0 : Int32))) 0 (.int x1)) 1 (.int x2)) 2 (.int x3)) := P5.keep K3 (nmS (Ne.symm N_o0_o1) nm0)
  have sz17 : n0 ≤ h2.size := Nat.le_trans hsz K3.1
  have K18 := (Keep.refl h0 [o0]).trans K3 (nvS (Or.inl (by simp)) nv0)
  have sy19 : h0.size ≤ h2.size := Nat.le_trans (Nat.le_refl h0.size) K3.1
  exact Wk.retN0 C rfl d1_9 (by decide) (by decide) ⟨n1_n1_b2, rfl, K18, gz13, F4, F5, F6, F7, F8⟩
set_option maxRecDepth 65536 in
set_option maxHeartbeats 40000000 in
theorem own_7_39 (l : Launch) (Z : State) (a0 : Array Value) (hw : ∀ d ∈ tables_1, d.before a0 Z = true) (n0 : Nat) (h0 : Heap) (hsz : n0 ≤ h0.size) (o0 : Addr) (o1 : Addr) (o2 : Addr) (x0 : Int32) (x1 : Int32) (x2 : Int32) (x3 : Int32) (P0 : Exa Z h0 o0 "java/lang/String") (P1 : Exa Z h0 o2 "[B") (P2 : Sta Z h0 "java/lang/String" "COMPACT_STRINGS" "Z" (.int x0)) (P3 : Fa Z h0 o2 .byte 3 (up (up (up (fun _ => (.int (0 : Int32))) 0 (.int x1)) 1 (.int x2)) 2 (.int x3))) (P4 : Fld Z h0 o0 "java/lang/String" "coder" "B" (.int (0 : Int32))) (P5 : Fld Z h0 o0 "java/lang/String" "value" "[B" (.ref o2)) (N_o0_o2 : o0 ≠ o2) (G_o0 : n0 ≤ o0) (G_o2 : n0 ≤ o2) (nz_x0 : ¬ x0 = (0 : Int32)) :
    Met true l Z n0 (⟨"java/util/Objects", "requireNonNull", "(Ljava/lang/Object;Ljava/lang/String;)Ljava/lang/Object;"⟩ : MethodName) jdk_31_method_11_code 2 (some (.object "java/lang/Object")) ({ frames := 0, cells := 0, slots := 0, locals := 0 } : Room) #[(.ref o0), (.ref o1)] h0 (fun v h => v = some (.ref o0) ∧ h0 = h) := by
  refine Met.of (plainFor_of_name pn_2) #[.val (.ref o0), .val (.ref o1)] (fun m => by first | (simp [entryFrame, mkF, argsToLocals, Value.category]; done) | rfl) ?_
  intro p e s m below meth c C
  refine Wk.st (g' := (mkF m 1 #[.val (.ref o0), .val (.ref o1)] [(.ref o0)])) (fun X t q => XS.aloadN X.here C.hx rfl (hb C.hby d7_0) rfl rfl q) ?_
  refine Wk.st (g' := (mkF m 13 #[.val (.ref o0), .val (.ref o1)] [])) (fun X t q => XS.ifnonnullYes X.here C.hx rfl (pc0 := 1) (pc' := 13) rfl (hb C.hby d7_1) rfl (by decide) (by decide) q) ?_
  refine Wk.st (g' := (mkF m 14 #[.val (.ref o0), .val (.ref o1)] [(.ref o0)])) (fun X t q => XS.aloadN X.here C.hx rfl (hb C.hby d7_13) rfl rfl q) ?_
  exact Wk.retV C (t := (.object "java/lang/Object")) rfl rfl (Or.inr (Or.inr (Or.inr (Or.inr ⟨rfl, rfl, rfl⟩)))) d7_14 (by decide) (by decide) ⟨rfl, rfl⟩
set_option maxRecDepth 65536 in
set_option maxHeartbeats 40000000 in
theorem own_5_39 (l : Launch) (Z : State) (a0 : Array Value) (hw : ∀ d ∈ tables_1, d.before a0 Z = true) (n0 : Nat) (h0 : Heap) (hsz : n0 ≤ h0.size) (o0 : Addr) (o1 : Addr) (o2 : Addr) (x0 : Int32) (x1 : Int32) (x2 : Int32) (x3 : Int32) (P0 : Exa Z h0 o1 "java/lang/String") (P1 : Exa Z h0 o2 "[B") (P2 : Sta Z h0 "java/lang/String" "COMPACT_STRINGS" "Z" (.int x0)) (P3 : Fa Z h0 o2 .byte 3 (up (up (up (fun _ => (.int (0 : Int32))) 0 (.int x1)) 1 (.int x2)) 2 (.int x3))) (P4 : Fld Z h0 o1 "java/lang/String" "coder" "B" (.int (0 : Int32))) (P5 : Fld Z h0 o1 "java/lang/String" "value" "[B" (.ref o2)) (P6 : Exa Z h0 o0 "com/example/escrow/escrow/LockRecord") (P7 : Fld Z h0 o0 "com/example/escrow/escrow/LockRecord" "name" "Ljava/lang/String;" .null) (P8 : Fld Z h0 o0 "com/example/escrow/escrow/LockRecord" "token" "J" (.long (0 : Int64))) (P9 : Fld Z h0 o0 "com/example/escrow/escrow/LockRecord" "owner" "Ljava/lang/String;" .null) (P10 : Fld Z h0 o0 "com/example/escrow/escrow/LockRecord" "claim" "Lcom/example/escrow/escrow/Claim;" .null) (N_o0_o1 : o0 ≠ o1) (N_o0_o2 : o0 ≠ o2) (N_o1_o2 : o1 ≠ o2) (G_o0 : n0 ≤ o0) (G_o1 : n0 ≤ o1) (G_o2 : n0 ≤ o2) (nz_x0 : ¬ x0 = (0 : Int32)) :
    Met true l Z n0 (⟨"com/example/escrow/escrow/LockRecord", "<init>", "(Ljava/lang/String;JLjava/lang/String;Lcom/example/escrow/escrow/Claim;)V"⟩ : MethodName) prog_25_method_1_code 6 none ({ frames := 2, cells := 2, slots := 20, locals := 24 } : Room) #[(.ref o0), (.ref o1), (.long (0 : Int64)), .null, .null] h0 (fun v h => v = none ∧ Keep h0 h [o0] ∧ Sta Z h "java/lang/String" "COMPACT_STRINGS" "Z" (.int x0) ∧ Fld Z h o0 "com/example/escrow/escrow/LockRecord" "name" "Ljava/lang/String;" (.ref o1) ∧ Fld Z h o0 "com/example/escrow/escrow/LockRecord" "token" "J" (.long (0 : Int64)) ∧ Fld Z h o0 "com/example/escrow/escrow/LockRecord" "owner" "Ljava/lang/String;" .null ∧ Fld Z h o0 "com/example/escrow/escrow/LockRecord" "claim" "Lcom/example/escrow/escrow/Claim;" .null) := by
  refine Met.of (plainFor_of_name pn_3) #[.val (.ref o0), .val (.ref o1), .val (.long (0 : Int64)), .second, .val .null, .val .null] (fun m => by first | (simp [entryFrame, mkF, argsToLocals, Value.category]; done) | rfl) ?_
  intro p e s m below meth c C
  refine Wk.st (g' := (mkF m 1 #[.val (.ref o0), .val (.ref o1), .val (.long (0 : Int64)), .second, .val .null, .val .null] [(.ref o0)])) (fun X t q => XS.aloadN X.here C.hx rfl (hb C.hby d5_0) rfl rfl q) ?_
  refine Wk.callI C (z := (⟨"java/lang/Record", "<init>", "()V"⟩ : MethodName)) rfl (hw _ (List.mem_of_getElem? (i := 31) rfl)) (hw _ (List.mem_of_getElem? (i := 32) rfl)) (hw _ (List.mem_of_getElem? (i := 34) rfl)) (hw _ (List.mem_of_getElem? (i := 35) rfl)) (by decide) (own_6_0 l Z a0 hw n0 h0 hsz o0 x0 P2 P6 P7 P8 P9 P10  G_o0 nz_x0) (w := 0) (by decide) (by decide) pd_4 rfl (rest := []) rfl rfl (Nat.le_of_eq rfl) (by decide) (by decide) d5_1 ?_
  rintro _ _ ⟨rfl, rfl⟩
  show Wk _ p l e _ s m _ below meth c n0 _ h0 0 0 (mkF m 4 #[.val (.ref o0), .val (.ref o1), .val (.long (0 : Int64)), .second, .val .null, .val .null] [])
  refine Wk.st (g' := (mkF m 5 #[.val (.ref o0), .val (.ref o1), .val (.long (0 : Int64)), .second, .val .null, .val .null] [(.ref o1)])) (fun X t q => XS.aloadN X.here C.hx rfl (hb C.hby d5_4) rfl rfl q) ?_
  refine Wk.ldcS C (hw _ (List.mem_of_getElem? (i := 37) rfl)) (own_wS hw) (N := 16) (by decide) (by decide) d5_5 (by decide) (by decide) ?_
  intro h4 a5 E6
  have F7 : Exa Z h4 o1 "java/lang/String" := P0.ext E6
  have F8 : Exa Z h4 o2 "[B" := P1.ext E6
  have F9 : Sta Z h4 "java/lang/String" "COMPACT_STRINGS" "Z" (.int x0) := P2.ext E6
  have F10 : Fa Z h4 o2 .byte 3 (up (up (up (fun _ => (.int (0 : Int32))) 0 (.int x1)) 1 (.int x2)) 2 (.int x3)) := P3.ext E6
  have F11 : Fld Z h4 o1 "java/lang/String" "coder" "B" (.int (0 : Int32)) := P4.ext E6
  have F12 : Fld Z h4 o1 "java/lang/String" "value" "[B" (.ref o2) := P5.ext E6
  have F13 : Exa Z h4 o0 "com/example/escrow/escrow/LockRecord" := P6.ext E6
  have F14 : Fld Z h4 o0 "com/example/escrow/escrow/LockRecord" "name" "Ljava/lang/String;" .null := P7.ext E6
  have F15 : Fld Z h4 o0 "com/example/escrow/escrow/LockRecord" "token" "J" (.long (0 : Int64)) := P8.ext E6
  have F16 : Fld Z h4 o0 "com/example/escrow/escrow/LockRecord" "owner" "Ljava/lang/String;" .null := P9.ext E6
  have F17 : Fld Z h4 o0 "com/example/escrow/escrow/LockRecord" "claim" "Lcom/example/escrow/escrow/Claim;" .null := P10.ext E6
  have sz18 : n0 ≤ h4.size := Nat.le_trans hsz E6.1
  have sy19 : h0.size ≤ h4.size := Nat.le_trans (Nat.le_refl h0.size) E6.1
  have K20 := (Keep.refl h0 [o0]).ext E6
  show Wk _ p l e _ s m _ below meth c n0 _ h4 2 20 (mkF m 7 #[.val (.ref o0), .val (.ref o1), .val (.long (0 : Int64)), .second, .val .null, .val .null] [(.ref a5), (.ref o1)])
  refine Wk.callS C (z := (⟨"java/util/Objects", "requireNonNull", "(Ljava/lang/Object;Ljava/lang/String;)Ljava/lang/Object;"⟩ : MethodName)) (hw _ (List.mem_of_getElem? (i := 38) rfl)) (hw _ (List.mem_of_getElem? (i := 39) rfl)) (hw _ (List.mem_of_getElem? (i := 40) rfl)) (hw _ (List.mem_of_getElem? (i := 41) rfl)) (by decide) (own_7_39 l Z a0 hw n0 h4 sz18 o1 a5 o2 x0 x1 x2 x3 F7 F8 F9 F10 F11 F12 N_o1_o2 G_o1 G_o2 nz_x0) (w := 0) (by decide) (by decide) pd_5 rfl (rest := []) rfl rfl (Nat.le_of_eq rfl) (by decide) (by decide) d5_7 ?_
  rintro _ _ ⟨rfl, rfl⟩
  show Wk _ p l e _ s m _ below meth c n0 _ h4 2 20 (mkF m 10 #[.val (.ref o0), .val (.ref o1), .val (.long (0 : Int64)), .second, .val .null, .val .null] [(.ref o1)])
  refine Wk.st (g' := (mkF m 11 #[.val (.ref o0), .val (.ref o1), .val (.long (0 : Int64)), .second, .val .null, .val .null] [])) (fun X t q => XS.pop X.here C.hx rfl (hb C.hby d5_10) rfl rfl q) ?_
  refine Wk.st (g' := (mkF m 12 #[.val (.ref o0), .val (.ref o1), .val (.long (0 : Int64)), .second, .val .null, .val .null] [(.ref o0)])) (fun X t q => XS.aloadN X.here C.hx rfl (hb C.hby d5_11) rfl rfl q) ?_
  refine Wk.st (g' := (mkF m 13 #[.val (.ref o0), .val (.ref o1), .val (.long (0 : Int64)), .second, .val .null, .val .null] [(.ref o1), (.ref o0)])) (fun X t q => XS.aloadN X.here C.hx rfl (hb C.hby d5_12) rfl rfl q) ?_
  refine Wk.putF C (hw _ (List.mem_of_getElem? (i := 42) rfl)) Via.refl F14 F13 (Or.inr ⟨(hw _ (List.mem_of_getElem? (i := 43) rfl)), rfl, rfl⟩) (hw _ (List.mem_of_getElem? (i := 27) rfl)) (ty := (.object "java/lang/String")) (by decide) (v' := (.ref o1)) rfl rfl G_o0 d5_13 ?_
  intro h24 W25
  have F26 : Fld Z h24 o0 "com/example/escrow/escrow/LockRecord" "name" "Ljava/lang/String;" (.ref o1) := F14.same W25
  have F27 : Exa Z h24 o1 "java/lang/String" := F7.wr W25
  have F28 : Exa Z h24 o2 "[B" := F8.wr W25
  have F29 : Sta Z h24 "java/lang/String" "COMPACT_STRINGS" "Z" (.int x0) := F9.wr W25
  have F30 : Fa Z h24 o2 .byte 3 (up (up (up (fun _ => (.int (0 : Int32))) 0 (.int x1)) 1 (.int x2)) 2 (.int x3)) := F10.other W25 (Ne.symm N_o0_o2)
  have F31 : Fld Z h24 o1 "java/lang/String" "coder" "B" (.int (0 : Int32)) := F11.other W25 (Or.inl (Ne.symm N_o0_o1))
  have F32 : Fld Z h24 o1 "java/lang/String" "value" "[B" (.ref o2) := F12.other W25 (Or.inl (Ne.symm N_o0_o1))
  have F33 : Exa Z h24 o0 "com/example/escrow/escrow/LockRecord" := F13.wr W25
  have F34 : Fld Z h24 o0 "com/example/escrow/escrow/LockRecord" "token" "J" (.long (0 : Int64)) := F15.other W25 (Or.inr (slot_ne (Or.inr (hw _ (List.mem_of_getElem? (i := 45) rfl))) (Or.inr (hw _ (List.mem_of_getElem? (i := 43) rfl))) (by decide) (t := .long) (t' := (.object "java/lang/String")) (by decide) (by decide)))
  have F35 : Fld Z h24 o0 "com/example/escrow/escrow/LockRecord" "owner" "Ljava/lang/String;" .null := F16.other W25 (Or.inr (slot_ne (Or.inr (hw _ (List.mem_of_getElem? (i := 47) rfl))) (Or.inr (hw _ (List.mem_of_getElem? (i := 43) rfl))) (by decide) (t := (.object "java/lang/String")) (t' := (.object "java/lang/String")) (by decide) (by decide)))
  have F36 : Fld Z h24 o0 "com/example/escrow/escrow/LockRecord" "claim" "Lcom/example/escrow/escrow/Claim;" .null := F17.other W25 (Or.inr (slot_ne (Or.inr (hw _ (List.mem_of_getElem? (i := 49) rfl))) (Or.inr (hw _ (List.mem_of_getElem? (i := 43) rfl))) (by decide) (t := (.object "com/example/escrow/escrow/Claim")) (t' := (.object "java/lang/String")) (by decide) (by decide)))
  have sz37 : n0 ≤ h24.size := Nat.le_trans sz18 (Nat.le_of_eq W25.size.symm)
  have sy38 : h0.size ≤ h24.size := Nat.le_trans sy19 (Nat.le_of_eq W25.size.symm)
  have K39 := K20.wr W25 (Or.inl (by simp))
  show Wk _ p l e _ s m _ below meth c n0 _ h24 2 20 (mkF m 16 #[.val (.ref o0), .val (.ref o1), .val (.long (0 : Int64)), .second, .val .null, .val .null] [])
  refine Wk.st (g' := (mkF m 17 #[.val (.ref o0), .val (.ref o1), .val (.long (0 : Int64)), .second, .val .null, .val .null] [(.ref o0)])) (fun X t q => XS.aloadN X.here C.hx rfl (hb C.hby d5_16) rfl rfl q) ?_
  refine Wk.st (g' := (mkF m 18 #[.val (.ref o0), .val (.ref o1), .val (.long (0 : Int64)), .second, .val .null, .val .null] [(.long (0 : Int64)), (.ref o0)])) (fun X t q => XS.lloadN X.here C.hx rfl (hb C.hby d5_17) rfl q) ?_
  refine Wk.putF C (hw _ (List.mem_of_getElem? (i := 44) rfl)) Via.refl F34 F33 (Or.inr ⟨(hw _ (List.mem_of_getElem? (i := 45) rfl)), rfl, rfl⟩) (hw _ (List.mem_of_getElem? (i := 27) rfl)) (ty := .long) (by decide) (v' := (.long (0 : Int64))) rfl rfl G_o0 d5_18 ?_
  intro h40 W41
  have F42 : Fld Z h40 o0 "com/example/escrow/escrow/LockRecord" "token" "J" (.long (0 : Int64)) := F34.same W41
  have F43 : Exa Z h40 o1 "java/lang/String" := F27.wr W41
  have F44 : Exa Z h40 o2 "[B" := F28.wr W41
  have F45 : Sta Z h40 "java/lang/String" "COMPACT_STRINGS" "Z" (.int x0) := F29.wr W41
  have F46 : Fa Z h40 o2 .byte 3 (up (up (up (fun _ => (.int (0 : Int32))) 0 (.int x1)) 1 (.int x2)) 2 (.int x3)) := F30.other W41 (Ne.symm N_o0_o2)
  have F47 : Fld Z h40 o1 "java/lang/String" "coder" "B" (.int (0 : Int32)) := F31.other W41 (Or.inl (Ne.symm N_o0_o1))
  have F48 : Fld Z h40 o1 "java/lang/String" "value" "[B" (.ref o2) := F32.other W41 (Or.inl (Ne.symm N_o0_o1))
  have F49 : Exa Z h40 o0 "com/example/escrow/escrow/LockRecord" := F33.wr W41
  have F50 : Fld Z h40 o0 "com/example/escrow/escrow/LockRecord" "owner" "Ljava/lang/String;" .null := F35.other W41 (Or.inr (slot_ne (Or.inr (hw _ (List.mem_of_getElem? (i := 47) rfl))) (Or.inr (hw _ (List.mem_of_getElem? (i := 45) rfl))) (by decide) (t := (.object "java/lang/String")) (t' := .long) (by decide) (by decide)))
  have F51 : Fld Z h40 o0 "com/example/escrow/escrow/LockRecord" "claim" "Lcom/example/escrow/escrow/Claim;" .null := F36.other W41 (Or.inr (slot_ne (Or.inr (hw _ (List.mem_of_getElem? (i := 49) rfl))) (Or.inr (hw _ (List.mem_of_getElem? (i := 45) rfl))) (by decide) (t := (.object "com/example/escrow/escrow/Claim")) (t' := .long) (by decide) (by decide)))
  have F52 : Fld Z h40 o0 "com/example/escrow/escrow/LockRecord" "name" "Ljava/lang/String;" (.ref o1) := F26.other W41 (Or.inr (slot_ne (Or.inr (hw _ (List.mem_of_getElem? (i := 43) rfl))) (Or.inr (hw _ (List.mem_of_getElem? (i := 45) rfl))) (by decide) (t := (.object "java/lang/String")) (t' := .long) (by decide) (by decide)))
  have sz53 : n0 ≤ h40.size := Nat.le_trans sz37 (Nat.le_of_eq W41.size.symm)
  have sy54 : h0.size ≤ h40.size := Nat.le_trans sy38 (Nat.le_of_eq W41.size.symm)
  have K55 := K39.wr W41 (Or.inl (by simp))
  show Wk _ p l e _ s m _ below meth c n0 _ h40 2 20 (mkF m 21 #[.val (.ref o0), .val (.ref o1), .val (.long (0 : Int64)), .second, .val .null, .val .null] [])
  refine Wk.st (g' := (mkF m 22 #[.val (.ref o0), .val (.ref o1), .val (.long (0 : Int64)), .second, .val .null, .val .null] [(.ref o0)])) (fun X t q => XS.aloadN X.here C.hx rfl (hb C.hby d5_21) rfl rfl q) ?_
  refine Wk.st (g' := (mkF m 24 #[.val (.ref o0), .val (.ref o1), .val (.long (0 : Int64)), .second, .val .null, .val .null] [.null, (.ref o0)])) (fun X t q => XS.aload X.here C.hx rfl (hb C.hby d5_22) rfl rfl q) ?_
  refine Wk.putF C (hw _ (List.mem_of_getElem? (i := 46) rfl)) Via.refl F50 F49 (Or.inr ⟨(hw _ (List.mem_of_getElem? (i := 47) rfl)), rfl, rfl⟩) (hw _ (List.mem_of_getElem? (i := 27) rfl)) (ty := (.object "java/lang/String")) (by decide) (v' := .null) rfl rfl G_o0 d5_24 ?_
  intro h56 W57
  have F58 : Fld Z h56 o0 "com/example/escrow/escrow/LockRecord" "owner" "Ljava/lang/String;" .null := F50.same W57
  have F59 : Exa Z h56 o1 "java/lang/String" := F43.wr W57
  have F60 : Exa Z h56 o2 "[B" := F44.wr W57
  have F61 : Sta Z h56 "java/lang/String" "COMPACT_STRINGS" "Z" (.int x0) := F45.wr W57
  have F62 : Fa Z h56 o2 .byte 3 (up (up (up (fun _ => (.int (0 : Int32))) 0 (.int x1)) 1 (.int x2)) 2 (.int x3)) := F46.other W57 (Ne.symm N_o0_o2)
  have F63 : Fld Z h56 o1 "java/lang/String" "coder" "B" (.int (0 : Int32)) := F47.other W57 (Or.inl (Ne.symm N_o0_o1))
  have F64 : Fld Z h56 o1 "java/lang/String" "value" "[B" (.ref o2) := F48.other W57 (Or.inl (Ne.symm N_o0_o1))
  have F65 : Exa Z h56 o0 "com/example/escrow/escrow/LockRecord" := F49.wr W57
  have F66 : Fld Z h56 o0 "com/example/escrow/escrow/LockRecord" "claim" "Lcom/example/escrow/escrow/Claim;" .null := F51.other W57 (Or.inr (slot_ne (Or.inr (hw _ (List.mem_of_getElem? (i := 49) rfl))) (Or.inr (hw _ (List.mem_of_getElem? (i := 47) rfl))) (by decide) (t := (.object "com/example/escrow/escrow/Claim")) (t' := (.object "java/lang/String")) (by decide) (by decide)))
  have F67 : Fld Z h56 o0 "com/example/escrow/escrow/LockRecord" "name" "Ljava/lang/String;" (.ref o1) := F52.other W57 (Or.inr (slot_ne (Or.inr (hw _ (List.mem_of_getElem? (i := 43) rfl))) (Or.inr (hw _ (List.mem_of_getElem? (i := 47) rfl))) (by decide) (t := (.object "java/lang/String")) (t' := (.object "java/lang/String")) (by decide) (by decide)))
  have F68 : Fld Z h56 o0 "com/example/escrow/escrow/LockRecord" "token" "J" (.long (0 : Int64)) := F42.other W57 (Or.inr (slot_ne (Or.inr (hw _ (List.mem_of_getElem? (i := 45) rfl))) (Or.inr (hw _ (List.mem_of_getElem? (i := 47) rfl))) (by decide) (t := .long) (t' := (.object "java/lang/String")) (by decide) (by decide)))
  have sz69 : n0 ≤ h56.size := Nat.le_trans sz53 (Nat.le_of_eq W57.size.symm)
  have sy70 : h0.size ≤ h56.size := Nat.le_trans sy54 (Nat.le_of_eq W57.size.symm)
  have K71 := K55.wr W57 (Or.inl (by simp))
  show Wk _ p l e _ s m _ below meth c n0 _ h56 2 20 (mkF m 27 #[.val (.ref o0), .val (.ref o1), .val (.long (0 : Int64)), .second, .val .null, .val .null] [])
  refine Wk.st (g' := (mkF m 28 #[.val (.ref o0), .val (.ref o1), .val (.long (0 : Int64)), .second, .val .null, .val .null] [(.ref o0)])) (fun X t q => XS.aloadN X.here C.hx rfl (hb C.hby d5_27) rfl rfl q) ?_
  refine Wk.st (g' := (mkF m 30 #[.val (.ref o0), .val (.ref o1), .val (.long (0 : Int64)), .second, .val .null, .val .null] [.null, (.ref o0)])) (fun X t q => XS.aload X.here C.hx rfl (hb C.hby d5_28) rfl rfl q) ?_
  refine Wk.putF C (hw _ (List.mem_of_getElem? (i := 48) rfl)) Via.refl F66 F65 (Or.inr ⟨(hw _ (List.mem_of_getElem? (i := 49) rfl)), rfl, rfl⟩) (hw _ (List.mem_of_getElem? (i := 27) rfl)) (ty := (.object "com/example/escrow/escrow/Claim")) (by decide) (v' := .null) rfl rfl G_o0 d5_30 ?_
  intro h72 W73
  have F74 : Fld Z h72 o0 "com/example/escrow/escrow/LockRecord" "claim" "Lcom/example/escrow/escrow/Claim;" .null := F66.same W73
  have F75 : Exa Z h72 o1 "java/lang/String" := F59.wr W73
  have F76 : Exa Z h72 o2 "[B" := F60.wr W73
  have F77 : Sta Z h72 "java/lang/String" "COMPACT_STRINGS" "Z" (.int x0) := F61.wr W73
  have F78 : Fa Z h72 o2 .byte 3 (up (up (up (fun _ => (.int (0 : Int32))) 0 (.int x1)) 1 (.int x2)) 2 (.int x3)) := F62.other W73 (Ne.symm N_o0_o2)
  have F79 : Fld Z h72 o1 "java/lang/String" "coder" "B" (.int (0 : Int32)) := F63.other W73 (Or.inl (Ne.symm N_o0_o1))
  have F80 : Fld Z h72 o1 "java/lang/String" "value" "[B" (.ref o2) := F64.other W73 (Or.inl (Ne.symm N_o0_o1))
  have F81 : Exa Z h72 o0 "com/example/escrow/escrow/LockRecord" := F65.wr W73
  have F82 : Fld Z h72 o0 "com/example/escrow/escrow/LockRecord" "name" "Ljava/lang/String;" (.ref o1) := F67.other W73 (Or.inr (slot_ne (Or.inr (hw _ (List.mem_of_getElem? (i := 43) rfl))) (Or.inr (hw _ (List.mem_of_getElem? (i := 49) rfl))) (by decide) (t := (.object "java/lang/String")) (t' := (.object "com/example/escrow/escrow/Claim")) (by decide) (by decide)))
  have F83 : Fld Z h72 o0 "com/example/escrow/escrow/LockRecord" "token" "J" (.long (0 : Int64)) := F68.other W73 (Or.inr (slot_ne (Or.inr (hw _ (List.mem_of_getElem? (i := 45) rfl))) (Or.inr (hw _ (List.mem_of_getElem? (i := 49) rfl))) (by decide) (t := .long) (t' := (.object "com/example/escrow/escrow/Claim")) (by decide) (by decide)))
  have F84 : Fld Z h72 o0 "com/example/escrow/escrow/LockRecord" "owner" "Ljava/lang/String;" .null := F58.other W73 (Or.inr (slot_ne (Or.inr (hw _ (List.mem_of_getElem? (i := 47) rfl))) (Or.inr (hw _ (List.mem_of_getElem? (i := 49) rfl))) (by decide) (t := (.object "java/lang/String")) (t' := (.object "com/example/escrow/escrow/Claim")) (by decide) (by decide)))
  have sz85 : n0 ≤ h72.size := Nat.le_trans sz69 (Nat.le_of_eq W73.size.symm)
  have sy86 : h0.size ≤ h72.size := Nat.le_trans sy70 (Nat.le_of_eq W73.size.symm)
  have K87 := K71.wr W73 (Or.inl (by simp))
  show Wk _ p l e _ s m _ below meth c n0 _ h72 2 20 (mkF m 33 #[.val (.ref o0), .val (.ref o1), .val (.long (0 : Int64)), .second, .val .null, .val .null] [])
  exact Wk.retN0 C rfl d5_33 (by decide) (by decide) ⟨rfl, K87, F77, F82, F83, F84, F74⟩
set_option maxRecDepth 65536 in
set_option maxHeartbeats 40000000 in
theorem own_4_39 (l : Launch) (Z : State) (a0 : Array Value) (hw : ∀ d ∈ tables_1, d.before a0 Z = true) (n0 : Nat) (h0 : Heap) (hsz : n0 ≤ h0.size) (o0 : Addr) (o1 : Addr) (x0 : Int32) (x1 : Int32) (x2 : Int32) (x3 : Int32) (P0 : Exa Z h0 o0 "java/lang/String") (P1 : Exa Z h0 o1 "[B") (P2 : Sta Z h0 "java/lang/String" "COMPACT_STRINGS" "Z" (.int x0)) (P3 : Fa Z h0 o1 .byte 3 (up (up (up (fun _ => (.int (0 : Int32))) 0 (.int x1)) 1 (.int x2)) 2 (.int x3))) (P4 : Fld Z h0 o0 "java/lang/String" "coder" "B" (.int (0 : Int32))) (P5 : Fld Z h0 o0 "java/lang/String" "value" "[B" (.ref o1)) (N_o0_o1 : o0 ≠ o1) (G_o0 : n0 ≤ o0) (G_o1 : n0 ≤ o1) (nz_x0 : ¬ x0 = (0 : Int32)) :
    Met true l Z n0 (⟨"com/example/escrow/escrow/LockRecord", "untaken", "(Ljava/lang/String;)Lcom/example/escrow/escrow/LockRecord;"⟩ : MethodName) prog_25_method_2_code 1 (some (.object "com/example/escrow/escrow/LockRecord")) ({ frames := 3, cells := 3, slots := 24, locals := 42 } : Room) #[(.ref o0)] h0 (fun v h => ∃ b2 : Addr, v = some (.ref b2) ∧ Keep h0 h [] ∧ h0.size ≤ b2 ∧ Exa Z h b2 "com/example/escrow/escrow/LockRecord" ∧ Sta Z h "java/lang/String" "COMPACT_STRINGS" "Z" (.int x0) ∧ Fld Z h b2 "com/example/escrow/escrow/LockRecord" "name" "Ljava/lang/String;" (.ref o0) ∧ Fld Z h b2 "com/example/escrow/escrow/LockRecord" "token" "J" (.long (0 : Int64)) ∧ Fld Z h b2 "com/example/escrow/escrow/LockRecord" "owner" "Ljava/lang/String;" .null ∧ Fld Z h b2 "com/example/escrow/escrow/LockRecord" "claim" "Lcom/example/escrow/escrow/Claim;" .null) := by
  refine Met.of (plainFor_of_name pn_3) #[.val (.ref o0)] (fun m => by first | (simp [entryFrame, mkF, argsToLocals, Value.category]; done) | rfl) ?_
  intro p e s m below meth c C
  refine Wk.newO C (hw _ (List.mem_of_getElem? (i := 26) rfl)) (hw _ (List.mem_of_getElem? (i := 27) rfl)) (hw _ (List.mem_of_getElem? (i := 24) rfl)) d4_0 (by decide) (by decide) ?_
  intro h1 b2 g3 E4 A5 D6
  have ne7 : o0 ≠ b2 := Nat.ne_of_lt (Nat.lt_of_lt_of_le P0.lt (Nat.le_of_eq g3.symm))
  have ne8 : o1 ≠ b2 := Nat.ne_of_lt (Nat.lt_of_lt_of_le P1.lt (Nat.le_of_eq g3.symm))
  have ge9 : n0 ≤ b2 := Nat.le_trans hsz (Nat.le_of_eq g3.symm)
  have gz10 : h0.size ≤ b2 := Nat.le_trans (Nat.le_refl h0.size) (Nat.le_of_eq g3.symm)
  have F11 : Exa Z h1 o0 "java/lang/String" := P0.ext E4
  have F12 : Exa Z h1 o1 "[B" := P1.ext E4
  have F13 : Sta Z h1 "java/lang/String" "COMPACT_STRINGS" "Z" (.int x0) := P2.ext E4
  have F14 : Fa Z h1 o1 .byte 3 (up (up (up (fun _ => (.int (0 : Int32))) 0 (.int x1)) 1 (.int x2)) 2 (.int x3)) := P3.ext E4
  have F15 : Fld Z h1 o0 "java/lang/String" "coder" "B" (.int (0 : Int32)) := P4.ext E4
  have F16 : Fld Z h1 o0 "java/lang/String" "value" "[B" (.ref o1) := P5.ext E4
  have sz17 : n0 ≤ h1.size := Nat.le_trans hsz E4.1
  have sy18 : h0.size ≤ h1.size := Nat.le_trans (Nat.le_refl h0.size) E4.1
  have K19 := (Keep.refl h0 []).ext E4
  have F20 : Fld Z h1 b2 "com/example/escrow/escrow/LockRecord" "name" "Ljava/lang/String;" .null := D6 (Or.inr (hw _ (List.mem_of_getElem? (i := 43) rfl))) (ty := (.object "java/lang/String")) (by decide)
  have F21 : Fld Z h1 b2 "com/example/escrow/escrow/LockRecord" "token" "J" (.long (0 : Int64)) := D6 (Or.inr (hw _ (List.mem_of_getElem? (i := 45) rfl))) (ty := .long) (by decide)
  have F22 : Fld Z h1 b2 "com/example/escrow/escrow/LockRecord" "owner" "Ljava/lang/String;" .null := D6 (Or.inr (hw _ (List.mem_of_getElem? (i := 47) rfl))) (ty := (.object "java/lang/String")) (by decide)
  have F23 : Fld Z h1 b2 "com/example/escrow/escrow/LockRecord" "claim" "Lcom/example/escrow/escrow/Claim;" .null := D6 (Or.inr (hw _ (List.mem_of_getElem? (i := 49) rfl))) (ty := (.object "com/example/escrow/escrow/Claim")) (by decide)
  show Wk _ p l e _ s m _ below meth c n0 _ h1 1 4 (mkF m 3 #[.val (.ref o0)] [(.ref b2)])
  refine Wk.st (g' := (mkF m 4 #[.val (.ref o0)] [(.ref b2), (.ref b2)])) (fun X t q => XS.dup X.here C.hx rfl (hb C.hby d4_3) rfl rfl q) ?_
  refine Wk.st (g' := (mkF m 5 #[.val (.ref o0)] [(.ref o0), (.ref b2), (.ref b2)])) (fun X t q => XS.aloadN X.here C.hx rfl (hb C.hby d4_4) rfl rfl q) ?_
  refine Wk.st (g' := (mkF m 6 #[.val (.ref o0)] [(.long (0 : Int64)), (.ref o0), (.ref b2), (.ref b2)])) (fun X t q => XS.lconst X.here C.hx rfl (hb C.hby d4_5) q) ?_
  refine Wk.st (g' := (mkF m 7 #[.val (.ref o0)] [.null, (.long (0 : Int64)), (.ref o0), (.ref b2), (.ref b2)])) (fun X t q => XS.aconstNull X.here C.hx rfl (hb C.hby d4_6) q) ?_
  refine Wk.st (g' := (mkF m 8 #[.val (.ref o0)] [.null, .null, (.long (0 : Int64)), (.ref o0), (.ref b2), (.ref b2)])) (fun X t q => XS.aconstNull X.here C.hx rfl (hb C.hby d4_7) q) ?_
  refine Wk.callI C (z := (⟨"com/example/escrow/escrow/LockRecord", "<init>", "(Ljava/lang/String;JLjava/lang/String;Lcom/example/escrow/escrow/Claim;)V"⟩ : MethodName)) rfl (hw _ (List.mem_of_getElem? (i := 28) rfl)) (hw _ (List.mem_of_getElem? (i := 29) rfl)) (hw _ (List.mem_of_getElem? (i := 24) rfl)) (hw _ (List.mem_of_getElem? (i := 30) rfl)) (by decide) (own_5_39 l Z a0 hw n0 h1 sz17 b2 o0 o1 x0 x1 x2 x3 F11 F12 F13 F14 F15 F16 A5 F20 F21 F22 F23 (Ne.symm ne7) (Ne.symm ne8) N_o0_o1 ge9 G_o0 G_o1 nz_x0) (w := 1) (by decide) (by decide) pd_3 rfl (rest := [(.ref b2)]) rfl rfl (Nat.le_of_eq rfl) (by decide) (by decide) d4_8 ?_
  rintro _ h25 ⟨rfl, K26, F27, F28, F29, F30, F31⟩
  show Wk _ p l e _ s m _ below meth c n0 _ h25 3 24 (mkF m 11 #[.val (.ref o0)] [(.ref b2)])
  have F32 : Exa Z h25 o0 "java/lang/String" := F11.keep K26
  have F33 : Exa Z h25 o1 "[B" := F12.keep K26
  have F34 : Fa Z h25 o1 .byte 3 (up (up (up (fun _ => (.int (0 : Int32))) 0 (.int x1)) 1 (.int x2)) 2 (.int x3)) := F14.keep K26 (nmS ne8 nm0)
  have F35 : Fld Z h25 o0 "java/lang/String" "coder" "B" (.int (0 : Int32)) := F15.keep K26 (nmS ne7 nm0)
  have F36 : Fld Z h25 o0 "java/lang/String" "value" "[B" (.ref o1) := F16.keep K26 (nmS ne7 nm0)
  have F37 : Exa Z h25 b2 "com/example/escrow/escrow/LockRecord" := A5.keep K26
  have sz38 : n0 ≤ h25.size := Nat.le_trans sz17 K26.1
  have K39 := K19.trans K26 (nvS (Or.inr gz10) nv0)
  have sy40 : h0.size ≤ h25.size := Nat.le_trans sy18 K26.1
  exact Wk.retV C (t := (.object "com/example/escrow/escrow/LockRecord")) rfl rfl (Or.inr (Or.inr (Or.inr (Or.inr ⟨rfl, rfl, rfl⟩)))) d4_11 (by decide) (by decide) ⟨b2, rfl, K39, gz10, F37, F27, F28, F29, F30, F31⟩
set_option maxRecDepth 65536 in
set_option maxHeartbeats 40000000 in
theorem own_8_42 (l : Launch) (Z : State) (a0 : Array Value) (hw : ∀ d ∈ tables_1, d.before a0 Z = true) (n0 : Nat) (h0 : Heap) (hsz : n0 ≤ h0.size) (o0 : Addr) (o1 : Addr) (o2 : Addr) (x0 : Int32) (x1 : Int32) (x2 : Int32) (x3 : Int32) (P0 : Exa Z h0 o1 "java/lang/String") (P1 : Exa Z h0 o2 "[B") (P2 : Fa Z h0 o2 .byte 3 (up (up (up (fun _ => (.int (0 : Int32))) 0 (.int x0)) 1 (.int x1)) 2 (.int x2))) (P3 : Fld Z h0 o1 "java/lang/String" "coder" "B" (.int (0 : Int32))) (P4 : Fld Z h0 o1 "java/lang/String" "value" "[B" (.ref o2)) (P5 : Exa Z h0 o0 "com/example/escrow/escrow/LockRecord") (P6 : Sta Z h0 "java/lang/String" "COMPACT_STRINGS" "Z" (.int x3)) (P7 : Fld Z h0 o0 "com/example/escrow/escrow/LockRecord" "name" "Ljava/lang/String;" (.ref o1)) (P8 : Fld Z h0 o0 "com/example/escrow/escrow/LockRecord" "token" "J" (.long (0 : Int64))) (P9 : Fld Z h0 o0 "com/example/escrow/escrow/LockRecord" "owner" "Ljava/lang/String;" .null) (P10 : Fld Z h0 o0 "com/example/escrow/escrow/LockRecord" "claim" "Lcom/example/escrow/escrow/Claim;" .null) (N_o0_o1 : o0 ≠ o1) (N_o0_o2 : o0 ≠ o2) (N_o1_o2 : o1 ≠ o2) (G_o0 : n0 ≤ o0) (G_o1 : n0 ≤ o1) (G_o2 : n0 ≤ o2) (nz_x3 : ¬ x3 = (0 : Int32)) :
    Met true l Z n0 (⟨"com/example/escrow/escrow/LockRecord", "name", "()Ljava/lang/String;"⟩ : MethodName) prog_25_method_16_code 1 (some (.object "java/lang/String")) ({ frames := 0, cells := 0, slots := 0, locals := 0 } : Room) #[(.ref o0)] h0 (fun v h => v = some (.ref o1) ∧ h0 = h) := by
  refine Met.of (plainFor_of_name pn_3) #[.val (.ref o0)] (fun m => by first | (simp [entryFrame, mkF, argsToLocals, Value.category]; done) | rfl) ?_
  intro p e s m below meth c C
  refine Wk.st (g' := (mkF m 1 #[.val (.ref o0)] [(.ref o0)])) (fun X t q => XS.aloadN X.here C.hx rfl (hb C.hby d8_0) rfl rfl q) ?_
  refine Wk.getF C (hw _ (List.mem_of_getElem? (i := 42) rfl)) Via.refl P7 d8_1 ?_
  show Wk _ p l e _ s m _ below meth c n0 _ h0 0 0 (mkF m 4 #[.val (.ref o0)] [(.ref o1)])
  exact Wk.retV C (t := (.object "java/lang/String")) rfl rfl (Or.inr (Or.inr (Or.inr (Or.inr ⟨rfl, rfl, rfl⟩)))) d8_4 (by decide) (by decide) ⟨rfl, rfl⟩
set_option maxRecDepth 65536 in
set_option maxHeartbeats 40000000 in
theorem own_9_43 (l : Launch) (Z : State) (a0 : Array Value) (hw : ∀ d ∈ tables_1, d.before a0 Z = true) (n0 : Nat) (h0 : Heap) (hsz : n0 ≤ h0.size) (o0 : Addr) (o1 : Addr) (x0 : Int32) (x1 : Int32) (x2 : Int32) (x3 : Int32) (P0 : Exa Z h0 o0 "java/lang/String") (P1 : Exa Z h0 o1 "[B") (P2 : Fa Z h0 o1 .byte 3 (up (up (up (fun _ => (.int (0 : Int32))) 0 (.int x0)) 1 (.int x1)) 2 (.int x2))) (P3 : Fld Z h0 o0 "java/lang/String" "coder" "B" (.int (0 : Int32))) (P4 : Fld Z h0 o0 "java/lang/String" "value" "[B" (.ref o1)) (P5 : Sta Z h0 "java/lang/String" "COMPACT_STRINGS" "Z" (.int x3)) (N_o0_o1 : o0 ≠ o1) (G_o0 : n0 ≤ o0) (G_o1 : n0 ≤ o1) (nz_x3 : ¬ x3 = (0 : Int32)) :
    Met true l Z n0 (⟨"java/lang/String", "equals", "(Ljava/lang/Object;)Z"⟩ : MethodName) jdk_42_method_66_code 3 (some .boolean) ({ frames := 0, cells := 0, slots := 0, locals := 0 } : Room) #[(.ref o0), (.ref o0)] h0 (fun v h => v = some (.int (1 : Int32)) ∧ h0 = h) := by
  refine Met.of (plainFor_of_name pn_0) #[.val (.ref o0), .val (.ref o0), .unset] (fun m => by first | (simp [entryFrame, mkF, argsToLocals, Value.category]; done) | rfl) ?_
  intro p e s m below meth c C
  refine Wk.st (g' := (mkF m 1 #[.val (.ref o0), .val (.ref o0), .unset] [(.ref o0)])) (fun X t q => XS.aloadN X.here C.hx rfl (hb C.hby d9_0) rfl rfl q) ?_
  refine Wk.st (g' := (mkF m 2 #[.val (.ref o0), .val (.ref o0), .unset] [(.ref o0), (.ref o0)])) (fun X t q => XS.aloadN X.here C.hx rfl (hb C.hby d9_1) rfl rfl q) ?_
  refine Wk.st (g' := (mkF m 5 #[.val (.ref o0), .val (.ref o0), .unset] [])) (fun X t q => Jvm.RoadKit.acmp (g := (mkF m 2 #[.val (.ref o0), .val (.ref o0), .unset] [(.ref o0), (.ref o0)])) X C.hx rfl rfl rfl (pc0 := 2) (pc' := 5) (same := true) rfl (hb C.hby d9_2) rfl (decide_eq_true (congrArg Value.ref rfl)) (by decide) (by decide) q) ?_
  refine Wk.st (g' := (mkF m 6 #[.val (.ref o0), .val (.ref o0), .unset] [(.int (1 : Int32))])) (fun X t q => XS.iconst X.here C.hx rfl (hb C.hby d9_5) q) ?_
  exact Wk.retV C (t := .boolean) rfl rfl (Or.inl ⟨rfl, by simp, _, rfl⟩) d9_6 (by decide) (by decide) ⟨rfl, rfl⟩
set_option maxRecDepth 65536 in
set_option maxHeartbeats 40000000 in
theorem own_10_44 (l : Launch) (Z : State) (a0 : Array Value) (hw : ∀ d ∈ tables_1, d.before a0 Z = true) (n0 : Nat) (h0 : Heap) (hsz : n0 ≤ h0.size) (o0 : Addr) (o1 : Addr) (o2 : Addr) (x0 : Int32) (x1 : Int32) (x2 : Int32) (x3 : Int32) (P0 : Exa Z h0 o1 "java/lang/String") (P1 : Exa Z h0 o2 "[B") (P2 : Fa Z h0 o2 .byte 3 (up (up (up (fun _ => (.int (0 : Int32))) 0 (.int x0)) 1 (.int x1)) 2 (.int x2))) (P3 : Fld Z h0 o1 "java/lang/String" "coder" "B" (.int (0 : Int32))) (P4 : Fld Z h0 o1 "java/lang/String" "value" "[B" (.ref o2)) (P5 : Exa Z h0 o0 "com/example/escrow/escrow/LockRecord") (P6 : Sta Z h0 "java/lang/String" "COMPACT_STRINGS" "Z" (.int x3)) (P7 : Fld Z h0 o0 "com/example/escrow/escrow/LockRecord" "name" "Ljava/lang/String;" (.ref o1)) (P8 : Fld Z h0 o0 "com/example/escrow/escrow/LockRecord" "token" "J" (.long (0 : Int64))) (P9 : Fld Z h0 o0 "com/example/escrow/escrow/LockRecord" "owner" "Ljava/lang/String;" .null) (P10 : Fld Z h0 o0 "com/example/escrow/escrow/LockRecord" "claim" "Lcom/example/escrow/escrow/Claim;" .null) (N_o0_o1 : o0 ≠ o1) (N_o0_o2 : o0 ≠ o2) (N_o1_o2 : o1 ≠ o2) (G_o0 : n0 ≤ o0) (G_o1 : n0 ≤ o1) (G_o2 : n0 ≤ o2) (nz_x3 : ¬ x3 = (0 : Int32)) :
    Met true l Z n0 (⟨"com/example/escrow/escrow/LockRecord", "token", "()J"⟩ : MethodName) prog_25_method_17_code 1 (some .long) ({ frames := 0, cells := 0, slots := 0, locals := 0 } : Room) #[(.ref o0)] h0 (fun v h => v = some (.long (0 : Int64)) ∧ h0 = h) := by
  refine Met.of (plainFor_of_name pn_3) #[.val (.ref o0)] (fun m => by first | (simp [entryFrame, mkF, argsToLocals, Value.category]; done) | rfl) ?_
  intro p e s m below meth c C
  refine Wk.st (g' := (mkF m 1 #[.val (.ref o0)] [(.ref o0)])) (fun X t q => XS.aloadN X.here C.hx rfl (hb C.hby d10_0) rfl rfl q) ?_
  refine Wk.getF C (hw _ (List.mem_of_getElem? (i := 44) rfl)) Via.refl P8 d10_1 ?_
  show Wk _ p l e _ s m _ below meth c n0 _ h0 0 0 (mkF m 4 #[.val (.ref o0)] [(.long (0 : Int64))])
  exact Wk.retV C (t := .long) rfl rfl (Or.inr (Or.inl ⟨rfl, rfl, _, rfl⟩)) d10_4 (by decide) (by decide) ⟨rfl, rfl⟩
set_option maxRecDepth 65536 in
set_option maxHeartbeats 40000000 in
theorem own_11_45 (l : Launch) (Z : State) (a0 : Array Value) (hw : ∀ d ∈ tables_1, d.before a0 Z = true) (n0 : Nat) (h0 : Heap) (hsz : n0 ≤ h0.size) (o0 : Addr) (o1 : Addr) (o2 : Addr) (x0 : Int32) (x1 : Int32) (x2 : Int32) (x3 : Int32) (P0 : Exa Z h0 o1 "java/lang/String") (P1 : Exa Z h0 o2 "[B") (P2 : Fa Z h0 o2 .byte 3 (up (up (up (fun _ => (.int (0 : Int32))) 0 (.int x0)) 1 (.int x1)) 2 (.int x2))) (P3 : Fld Z h0 o1 "java/lang/String" "coder" "B" (.int (0 : Int32))) (P4 : Fld Z h0 o1 "java/lang/String" "value" "[B" (.ref o2)) (P5 : Exa Z h0 o0 "com/example/escrow/escrow/LockRecord") (P6 : Sta Z h0 "java/lang/String" "COMPACT_STRINGS" "Z" (.int x3)) (P7 : Fld Z h0 o0 "com/example/escrow/escrow/LockRecord" "name" "Ljava/lang/String;" (.ref o1)) (P8 : Fld Z h0 o0 "com/example/escrow/escrow/LockRecord" "token" "J" (.long (0 : Int64))) (P9 : Fld Z h0 o0 "com/example/escrow/escrow/LockRecord" "owner" "Ljava/lang/String;" .null) (P10 : Fld Z h0 o0 "com/example/escrow/escrow/LockRecord" "claim" "Lcom/example/escrow/escrow/Claim;" .null) (N_o0_o1 : o0 ≠ o1) (N_o0_o2 : o0 ≠ o2) (N_o1_o2 : o1 ≠ o2) (G_o0 : n0 ≤ o0) (G_o1 : n0 ≤ o1) (G_o2 : n0 ≤ o2) (nz_x3 : ¬ x3 = (0 : Int32)) :
    Met true l Z n0 (⟨"com/example/escrow/escrow/LockRecord", "owner", "()Ljava/lang/String;"⟩ : MethodName) prog_25_method_18_code 1 (some (.object "java/lang/String")) ({ frames := 0, cells := 0, slots := 0, locals := 0 } : Room) #[(.ref o0)] h0 (fun v h => v = some .null ∧ h0 = h) := by
  refine Met.of (plainFor_of_name pn_3) #[.val (.ref o0)] (fun m => by first | (simp [entryFrame, mkF, argsToLocals, Value.category]; done) | rfl) ?_
  intro p e s m below meth c C
  refine Wk.st (g' := (mkF m 1 #[.val (.ref o0)] [(.ref o0)])) (fun X t q => XS.aloadN X.here C.hx rfl (hb C.hby d11_0) rfl rfl q) ?_
  refine Wk.getF C (hw _ (List.mem_of_getElem? (i := 46) rfl)) Via.refl P9 d11_1 ?_
  show Wk _ p l e _ s m _ below meth c n0 _ h0 0 0 (mkF m 4 #[.val (.ref o0)] [.null])
  exact Wk.retV C (t := (.object "java/lang/String")) rfl rfl (Or.inr (Or.inr (Or.inr (Or.inr ⟨rfl, rfl, rfl⟩)))) d11_4 (by decide) (by decide) ⟨rfl, rfl⟩
set_option maxRecDepth 65536 in
set_option maxHeartbeats 40000000 in
theorem own_12_46 (l : Launch) (Z : State) (a0 : Array Value) (hw : ∀ d ∈ tables_1, d.before a0 Z = true) (n0 : Nat) (h0 : Heap) (hsz : n0 ≤ h0.size) (o0 : Addr) (o1 : Addr) (o2 : Addr) (x0 : Int32) (x1 : Int32) (x2 : Int32) (x3 : Int32) (P0 : Exa Z h0 o1 "java/lang/String") (P1 : Exa Z h0 o2 "[B") (P2 : Fa Z h0 o2 .byte 3 (up (up (up (fun _ => (.int (0 : Int32))) 0 (.int x0)) 1 (.int x1)) 2 (.int x2))) (P3 : Fld Z h0 o1 "java/lang/String" "coder" "B" (.int (0 : Int32))) (P4 : Fld Z h0 o1 "java/lang/String" "value" "[B" (.ref o2)) (P5 : Exa Z h0 o0 "com/example/escrow/escrow/LockRecord") (P6 : Sta Z h0 "java/lang/String" "COMPACT_STRINGS" "Z" (.int x3)) (P7 : Fld Z h0 o0 "com/example/escrow/escrow/LockRecord" "name" "Ljava/lang/String;" (.ref o1)) (P8 : Fld Z h0 o0 "com/example/escrow/escrow/LockRecord" "token" "J" (.long (0 : Int64))) (P9 : Fld Z h0 o0 "com/example/escrow/escrow/LockRecord" "owner" "Ljava/lang/String;" .null) (P10 : Fld Z h0 o0 "com/example/escrow/escrow/LockRecord" "claim" "Lcom/example/escrow/escrow/Claim;" .null) (N_o0_o1 : o0 ≠ o1) (N_o0_o2 : o0 ≠ o2) (N_o1_o2 : o1 ≠ o2) (G_o0 : n0 ≤ o0) (G_o1 : n0 ≤ o1) (G_o2 : n0 ≤ o2) (nz_x3 : ¬ x3 = (0 : Int32)) :
    Met true l Z n0 (⟨"com/example/escrow/escrow/LockRecord", "claim", "()Lcom/example/escrow/escrow/Claim;"⟩ : MethodName) prog_25_method_19_code 1 (some (.object "com/example/escrow/escrow/Claim")) ({ frames := 0, cells := 0, slots := 0, locals := 0 } : Room) #[(.ref o0)] h0 (fun v h => v = some .null ∧ h0 = h) := by
  refine Met.of (plainFor_of_name pn_3) #[.val (.ref o0)] (fun m => by first | (simp [entryFrame, mkF, argsToLocals, Value.category]; done) | rfl) ?_
  intro p e s m below meth c C
  refine Wk.st (g' := (mkF m 1 #[.val (.ref o0)] [(.ref o0)])) (fun X t q => XS.aloadN X.here C.hx rfl (hb C.hby d12_0) rfl rfl q) ?_
  refine Wk.getF C (hw _ (List.mem_of_getElem? (i := 48) rfl)) Via.refl P10 d12_1 ?_
  show Wk _ p l e _ s m _ below meth c n0 _ h0 0 0 (mkF m 4 #[.val (.ref o0)] [.null])
  exact Wk.retV C (t := (.object "com/example/escrow/escrow/Claim")) rfl rfl (Or.inr (Or.inr (Or.inr (Or.inr ⟨rfl, rfl, rfl⟩)))) d12_4 (by decide) (by decide) ⟨rfl, rfl⟩
set_option maxRecDepth 65536 in
set_option maxHeartbeats 40000000 in
theorem law_met (l : Launch) (Z : State) (a0 : Array Value) (hw : ∀ d ∈ tables_1, d.before a0 Z = true) (n0 : Nat) (h0 : Heap) (hsz : n0 ≤ h0.size) (i0 i1 i2 i3 cs : Int32) (SC : Sta Z h0 "java/lang/String" "COMPACT_STRINGS" "Z" (.int cs)) (hcs : ¬ cs = (0 : Int32)) (hh : Jvm.Lit.constHeld Z "java/lang/String" 7) (hcw : Jvm.Lit.compactW.before a0 Z = true) (hkp : ∀ (b : Addr) (cl : Cell), Z.heap[b]? = some cl → h0[b]? = some cl) :
    MetL l Z n0 x code maxLocals ret room_1 #[(.int i0), (.int i1), (.int i2), (.int i3)] (some ("", 0, 0)) h0 (fun v _ _ => v = some (.int 1)) := by
  refine MetL.of (plainFor_of_name pn_6) #[.val (.int i0), .val (.int i1), .val (.int i2), .val (.int i3), .unset, .unset, .unset, .unset, .unset, .unset, .unset] (fun m => by first | (simp [entryFrame, mkF, argsToLocals, Value.category, maxLocals]; done) | rfl) ?_
  intro p e s m below meth c C
  refine Wl.st (g' := (mkF m 1 #[.val (.int i0), .val (.int i1), .val (.int i2), .val (.int i3), .unset, .unset, .unset, .unset, .unset, .unset, .unset] [(.int i1)])) (fun X t q => XS.iloadN X.here C.hx rfl (hb C.hby at_0) rfl q) ?_
  refine Wl.st (g' := (mkF m 4 #[.val (.int i0), .val (.int i1), .val (.int i2), .val (.int i3), .unset, .unset, .unset, .unset, .unset, .unset, .unset] [(.int (255 : Int32)), (.int i1)])) (fun X t q => XS.sipush X.here C.hx rfl (hb C.hby at_1) q) ?_
  refine Wl.st (g' := (mkF m 5 #[.val (.int i0), .val (.int i1), .val (.int i2), .val (.int i3), .unset, .unset, .unset, .unset, .unset, .unset, .unset] [(.int (i1 &&& (255 : Int32)))])) (fun X t q => XS.iand X.here C.hx rfl (hb C.hby at_4) rfl q) ?_
  refine Wl.st (g' := (mkF m 6 #[.val (.int i0), .val (.int i1), .val (.int i2), .val (.int i3), .unset, .unset, .unset, .unset, .unset, .unset, .unset] [(.int ((i1 &&& (255 : Int32)).toUInt32.toUInt16.toUInt32.toInt32))])) (fun X t q => XS.i2c X.here C.hx rfl (hb C.hby at_5) rfl q) ?_
  refine Wl.st (g' := (mkF m 8 #[.val (.int i0), .val (.int i1), .val (.int i2), .val (.int i3), .val (.int ((i1 &&& (255 : Int32)).toUInt32.toUInt16.toUInt32.toInt32)), .unset, .unset, .unset, .unset, .unset, .unset] [])) (fun X t q => XS.istore X.here C.hx rfl (hb C.hby at_6) rfl (l' := #[.val (.int i0), .val (.int i1), .val (.int i2), .val (.int i3), .val (.int ((i1 &&& (255 : Int32)).toUInt32.toUInt16.toUInt32.toInt32)), .unset, .unset, .unset, .unset, .unset, .unset]) rfl q) ?_
  refine Wl.st (g' := (mkF m 9 #[.val (.int i0), .val (.int i1), .val (.int i2), .val (.int i3), .val (.int ((i1 &&& (255 : Int32)).toUInt32.toUInt16.toUInt32.toInt32)), .unset, .unset, .unset, .unset, .unset, .unset] [(.int i2)])) (fun X t q => XS.iloadN X.here C.hx rfl (hb C.hby at_8) rfl q) ?_
  refine Wl.st (g' := (mkF m 12 #[.val (.int i0), .val (.int i1), .val (.int i2), .val (.int i3), .val (.int ((i1 &&& (255 : Int32)).toUInt32.toUInt16.toUInt32.toInt32)), .unset, .unset, .unset, .unset, .unset, .unset] [(.int (255 : Int32)), (.int i2)])) (fun X t q => XS.sipush X.here C.hx rfl (hb C.hby at_9) q) ?_
  refine Wl.st (g' := (mkF m 13 #[.val (.int i0), .val (.int i1), .val (.int i2), .val (.int i3), .val (.int ((i1 &&& (255 : Int32)).toUInt32.toUInt16.toUInt32.toInt32)), .unset, .unset, .unset, .unset, .unset, .unset] [(.int (i2 &&& (255 : Int32)))])) (fun X t q => XS.iand X.here C.hx rfl (hb C.hby at_12) rfl q) ?_
  refine Wl.st (g' := (mkF m 14 #[.val (.int i0), .val (.int i1), .val (.int i2), .val (.int i3), .val (.int ((i1 &&& (255 : Int32)).toUInt32.toUInt16.toUInt32.toInt32)), .unset, .unset, .unset, .unset, .unset, .unset] [(.int ((i2 &&& (255 : Int32)).toUInt32.toUInt16.toUInt32.toInt32))])) (fun X t q => XS.i2c X.here C.hx rfl (hb C.hby at_13) rfl q) ?_
  refine Wl.st (g' := (mkF m 16 #[.val (.int i0), .val (.int i1), .val (.int i2), .val (.int i3), .val (.int ((i1 &&& (255 : Int32)).toUInt32.toUInt16.toUInt32.toInt32)), .val (.int ((i2 &&& (255 : Int32)).toUInt32.toUInt16.toUInt32.toInt32)), .unset, .unset, .unset, .unset, .unset] [])) (fun X t q => XS.istore X.here C.hx rfl (hb C.hby at_14) rfl (l' := #[.val (.int i0), .val (.int i1), .val (.int i2), .val (.int i3), .val (.int ((i1 &&& (255 : Int32)).toUInt32.toUInt16.toUInt32.toInt32)), .val (.int ((i2 &&& (255 : Int32)).toUInt32.toUInt16.toUInt32.toInt32)), .unset, .unset, .unset, .unset, .unset]) rfl q) ?_
  refine Wl.st (g' := (mkF m 17 #[.val (.int i0), .val (.int i1), .val (.int i2), .val (.int i3), .val (.int ((i1 &&& (255 : Int32)).toUInt32.toUInt16.toUInt32.toInt32)), .val (.int ((i2 &&& (255 : Int32)).toUInt32.toUInt16.toUInt32.toInt32)), .unset, .unset, .unset, .unset, .unset] [(.int i3)])) (fun X t q => XS.iloadN X.here C.hx rfl (hb C.hby at_16) rfl q) ?_
  refine Wl.st (g' := (mkF m 20 #[.val (.int i0), .val (.int i1), .val (.int i2), .val (.int i3), .val (.int ((i1 &&& (255 : Int32)).toUInt32.toUInt16.toUInt32.toInt32)), .val (.int ((i2 &&& (255 : Int32)).toUInt32.toUInt16.toUInt32.toInt32)), .unset, .unset, .unset, .unset, .unset] [(.int (255 : Int32)), (.int i3)])) (fun X t q => XS.sipush X.here C.hx rfl (hb C.hby at_17) q) ?_
  refine Wl.st (g' := (mkF m 21 #[.val (.int i0), .val (.int i1), .val (.int i2), .val (.int i3), .val (.int ((i1 &&& (255 : Int32)).toUInt32.toUInt16.toUInt32.toInt32)), .val (.int ((i2 &&& (255 : Int32)).toUInt32.toUInt16.toUInt32.toInt32)), .unset, .unset, .unset, .unset, .unset] [(.int (i3 &&& (255 : Int32)))])) (fun X t q => XS.iand X.here C.hx rfl (hb C.hby at_20) rfl q) ?_
  refine Wl.st (g' := (mkF m 22 #[.val (.int i0), .val (.int i1), .val (.int i2), .val (.int i3), .val (.int ((i1 &&& (255 : Int32)).toUInt32.toUInt16.toUInt32.toInt32)), .val (.int ((i2 &&& (255 : Int32)).toUInt32.toUInt16.toUInt32.toInt32)), .unset, .unset, .unset, .unset, .unset] [(.int ((i3 &&& (255 : Int32)).toUInt32.toUInt16.toUInt32.toInt32))])) (fun X t q => XS.i2c X.here C.hx rfl (hb C.hby at_21) rfl q) ?_
  refine Wl.st (g' := (mkF m 24 #[.val (.int i0), .val (.int i1), .val (.int i2), .val (.int i3), .val (.int ((i1 &&& (255 : Int32)).toUInt32.toUInt16.toUInt32.toInt32)), .val (.int ((i2 &&& (255 : Int32)).toUInt32.toUInt16.toUInt32.toInt32)), .val (.int ((i3 &&& (255 : Int32)).toUInt32.toUInt16.toUInt32.toInt32)), .unset, .unset, .unset, .unset] [])) (fun X t q => XS.istore X.here C.hx rfl (hb C.hby at_22) rfl (l' := #[.val (.int i0), .val (.int i1), .val (.int i2), .val (.int i3), .val (.int ((i1 &&& (255 : Int32)).toUInt32.toUInt16.toUInt32.toInt32)), .val (.int ((i2 &&& (255 : Int32)).toUInt32.toUInt16.toUInt32.toInt32)), .val (.int ((i3 &&& (255 : Int32)).toUInt32.toUInt16.toUInt32.toInt32)), .unset, .unset, .unset, .unset]) rfl q) ?_
  refine Wl.st (g' := (mkF m 25 #[.val (.int i0), .val (.int i1), .val (.int i2), .val (.int i3), .val (.int ((i1 &&& (255 : Int32)).toUInt32.toUInt16.toUInt32.toInt32)), .val (.int ((i2 &&& (255 : Int32)).toUInt32.toUInt16.toUInt32.toInt32)), .val (.int ((i3 &&& (255 : Int32)).toUInt32.toUInt16.toUInt32.toInt32)), .unset, .unset, .unset, .unset] [(.int i0)])) (fun X t q => XS.iloadN X.here C.hx rfl (hb C.hby at_24) rfl q) ?_
  refine Wl.st (g' := (mkF m 26 #[.val (.int i0), .val (.int i1), .val (.int i2), .val (.int i3), .val (.int ((i1 &&& (255 : Int32)).toUInt32.toUInt16.toUInt32.toInt32)), .val (.int ((i2 &&& (255 : Int32)).toUInt32.toUInt16.toUInt32.toInt32)), .val (.int ((i3 &&& (255 : Int32)).toUInt32.toUInt16.toUInt32.toInt32)), .unset, .unset, .unset, .unset] [(.int (3 : Int32)), (.int i0)])) (fun X t q => XS.iconst X.here C.hx rfl (hb C.hby at_25) q) ?_
  refine Wl.st (g' := (mkF m 27 #[.val (.int i0), .val (.int i1), .val (.int i2), .val (.int i3), .val (.int ((i1 &&& (255 : Int32)).toUInt32.toUInt16.toUInt32.toInt32)), .val (.int ((i2 &&& (255 : Int32)).toUInt32.toUInt16.toUInt32.toInt32)), .val (.int ((i3 &&& (255 : Int32)).toUInt32.toUInt16.toUInt32.toInt32)), .unset, .unset, .unset, .unset] [(.int (i0 &&& (3 : Int32)))])) (fun X t q => XS.iand X.here C.hx rfl (hb C.hby at_26) rfl q) ?_
  refine Wl.st (g' := (mkF m 29 #[.val (.int i0), .val (.int i1), .val (.int i2), .val (.int i3), .val (.int ((i1 &&& (255 : Int32)).toUInt32.toUInt16.toUInt32.toInt32)), .val (.int ((i2 &&& (255 : Int32)).toUInt32.toUInt16.toUInt32.toInt32)), .val (.int ((i3 &&& (255 : Int32)).toUInt32.toUInt16.toUInt32.toInt32)), .val (.int (i0 &&& (3 : Int32))), .unset, .unset, .unset] [])) (fun X t q => XS.istore X.here C.hx rfl (hb C.hby at_27) rfl (l' := #[.val (.int i0), .val (.int i1), .val (.int i2), .val (.int i3), .val (.int ((i1 &&& (255 : Int32)).toUInt32.toUInt16.toUInt32.toInt32)), .val (.int ((i2 &&& (255 : Int32)).toUInt32.toUInt16.toUInt32.toInt32)), .val (.int ((i3 &&& (255 : Int32)).toUInt32.toUInt16.toUInt32.toInt32)), .val (.int (i0 &&& (3 : Int32))), .unset, .unset, .unset]) rfl q) ?_
  rcases and3 i0 with hi | hi | hi | hi <;> rw [hi]
  · skip
    show Wl _ p l e _ s m _ below meth c n0 _ (some ("", 0, 0)) h0 0 0 (mkF m 29 #[.val (.int i0), .val (.int i1), .val (.int i2), .val (.int i3), .val (.int ((i1 &&& (255 : Int32)).toUInt32.toUInt16.toUInt32.toInt32)), .val (.int ((i2 &&& (255 : Int32)).toUInt32.toUInt16.toUInt32.toInt32)), .val (.int ((i3 &&& (255 : Int32)).toUInt32.toUInt16.toUInt32.toInt32)), .val (.int (0 : Int32)), .unset, .unset, .unset] [])
    refine Wl.st (g' := (mkF m 31 #[.val (.int i0), .val (.int i1), .val (.int i2), .val (.int i3), .val (.int ((i1 &&& (255 : Int32)).toUInt32.toUInt16.toUInt32.toInt32)), .val (.int ((i2 &&& (255 : Int32)).toUInt32.toUInt16.toUInt32.toInt32)), .val (.int ((i3 &&& (255 : Int32)).toUInt32.toUInt16.toUInt32.toInt32)), .val (.int (0 : Int32)), .unset, .unset, .unset] [(.int (0 : Int32))])) (fun X t q => XS.iload X.here C.hx rfl (hb C.hby at_29) rfl q) ?_
    refine Wl.st (g' := (mkF m 34 #[.val (.int i0), .val (.int i1), .val (.int i2), .val (.int i3), .val (.int ((i1 &&& (255 : Int32)).toUInt32.toUInt16.toUInt32.toInt32)), .val (.int ((i2 &&& (255 : Int32)).toUInt32.toUInt16.toUInt32.toInt32)), .val (.int ((i3 &&& (255 : Int32)).toUInt32.toUInt16.toUInt32.toInt32)), .val (.int (0 : Int32)), .unset, .unset, .unset] [])) (fun X t q => XS.ifNo X.here C.hx rfl (hb C.hby at_31) rfl (XT.i0_ne_f (by decide)) q) ?_
    refine Wl.newO C (hw _ (List.mem_of_getElem? (i := 0) rfl)) (hw _ (List.mem_of_getElem? (i := 1) rfl)) (hw _ (List.mem_of_getElem? (i := 2) rfl)) at_34 (by decide) (by decide) ?_
    intro h1 b2 g3 E4 A5 D6
    have ge7 : n0 ≤ b2 := Nat.le_trans hsz (Nat.le_of_eq g3.symm)
    have gz8 : h0.size ≤ b2 := Nat.le_trans (Nat.le_refl h0.size) (Nat.le_of_eq g3.symm)
    have F9 : Sta Z h1 "java/lang/String" "COMPACT_STRINGS" "Z" (.int cs) := SC.ext E4
    have sz10 : n0 ≤ h1.size := Nat.le_trans hsz E4.1
    have sy11 : h0.size ≤ h1.size := Nat.le_trans (Nat.le_refl h0.size) E4.1
    have F12 : Fld Z h1 b2 "java/lang/String" "value" "[B" .null := D6 (Or.inr (hw _ (List.mem_of_getElem? (i := 16) rfl))) (ty := (.array .byte)) (by decide)
    have F13 : Fld Z h1 b2 "java/lang/String" "coder" "B" (.int (0 : Int32)) := D6 (Or.inr (hw _ (List.mem_of_getElem? (i := 17) rfl))) (ty := .byte) (by decide)
    show Wl _ p l e _ s m _ below meth c n0 _ (some ("", 0, 0)) h1 1 4 (mkF m 37 #[.val (.int i0), .val (.int i1), .val (.int i2), .val (.int i3), .val (.int ((i1 &&& (255 : Int32)).toUInt32.toUInt16.toUInt32.toInt32)), .val (.int ((i2 &&& (255 : Int32)).toUInt32.toUInt16.toUInt32.toInt32)), .val (.int ((i3 &&& (255 : Int32)).toUInt32.toUInt16.toUInt32.toInt32)), .val (.int (0 : Int32)), .unset, .unset, .unset] [(.ref b2)])
    refine Wl.st (g' := (mkF m 38 #[.val (.int i0), .val (.int i1), .val (.int i2), .val (.int i3), .val (.int ((i1 &&& (255 : Int32)).toUInt32.toUInt16.toUInt32.toInt32)), .val (.int ((i2 &&& (255 : Int32)).toUInt32.toUInt16.toUInt32.toInt32)), .val (.int ((i3 &&& (255 : Int32)).toUInt32.toUInt16.toUInt32.toInt32)), .val (.int (0 : Int32)), .unset, .unset, .unset] [(.ref b2), (.ref b2)])) (fun X t q => XS.dup X.here C.hx rfl (hb C.hby at_37) rfl rfl q) ?_
    refine Wl.st (g' := (mkF m 39 #[.val (.int i0), .val (.int i1), .val (.int i2), .val (.int i3), .val (.int ((i1 &&& (255 : Int32)).toUInt32.toUInt16.toUInt32.toInt32)), .val (.int ((i2 &&& (255 : Int32)).toUInt32.toUInt16.toUInt32.toInt32)), .val (.int ((i3 &&& (255 : Int32)).toUInt32.toUInt16.toUInt32.toInt32)), .val (.int (0 : Int32)), .unset, .unset, .unset] [(.int (0 : Int32)), (.ref b2), (.ref b2)])) (fun X t q => XS.iconst X.here C.hx rfl (hb C.hby at_38) q) ?_
    refine Wl.fNewP C (hw _ (List.mem_of_getElem? (i := 3) rfl)) (ty := .char) (dv := (.int (0 : Int32))) (N := 0) (ad := "[C") rfl rfl (by decide) (by decide) (by decide) (cap := 0) (by decide) (by decide) at_39 (by decide) (by decide) ?_
    intro h14 b15 g16 E17 A18 F19
    have ne20 : b2 ≠ b15 := Nat.ne_of_lt (Nat.lt_of_lt_of_le A5.lt (Nat.le_of_eq g16.symm))
    have ge21 : n0 ≤ b15 := Nat.le_trans sz10 (Nat.le_of_eq g16.symm)
    have gz22 : h0.size ≤ b15 := Nat.le_trans sy11 (Nat.le_of_eq g16.symm)
    have F23 : Sta Z h14 "java/lang/String" "COMPACT_STRINGS" "Z" (.int cs) := F9.ext E17
    have F24 : Exa Z h14 b2 "java/lang/String" := A5.ext E17
    have F25 : Fld Z h14 b2 "java/lang/String" "value" "[B" .null := F12.ext E17
    have F26 : Fld Z h14 b2 "java/lang/String" "coder" "B" (.int (0 : Int32)) := F13.ext E17
    have sz27 : n0 ≤ h14.size := Nat.le_trans sz10 E17.1
    have sy28 : h0.size ≤ h14.size := Nat.le_trans sy11 E17.1
    show Wl _ p l e _ s m _ below meth c n0 _ (some ("", 0, 0)) h14 2 4 (mkF m 41 #[.val (.int i0), .val (.int i1), .val (.int i2), .val (.int i3), .val (.int ((i1 &&& (255 : Int32)).toUInt32.toUInt16.toUInt32.toInt32)), .val (.int ((i2 &&& (255 : Int32)).toUInt32.toUInt16.toUInt32.toInt32)), .val (.int ((i3 &&& (255 : Int32)).toUInt32.toUInt16.toUInt32.toInt32)), .val (.int (0 : Int32)), .unset, .unset, .unset] [(.ref b15), (.ref b2), (.ref b2)])
    refine Wl.callI C (z := (⟨"java/lang/String", "<init>", "([C)V"⟩ : MethodName)) rfl (hw _ (List.mem_of_getElem? (i := 4) rfl)) (hw _ (List.mem_of_getElem? (i := 5) rfl)) (hw _ (List.mem_of_getElem? (i := 2) rfl)) (hw _ (List.mem_of_getElem? (i := 6) rfl)) (by decide) (own_init0 l Z a0 hw n0 h14 sz27 b2 b15 cs .null (.int (0 : Int32)) F23 F24 F25 F26 ge7 hh hcw (fun x cl q => E17.2 _ _ (E4.2 _ _ (hkp x cl q))) F19) (w := 1) (by decide) (by decide) pd_1 rfl (rest := [(.ref b2)]) rfl rfl (Nat.le_of_eq rfl) (by decide) (by decide) at_41 ?_
    rintro _ h29 _ ⟨⟨rfl, K30, S31⟩, rfl⟩
    show Wl _ p l e _ s m _ below meth c n0 _ none h29 4 8 (mkF m 44 #[.val (.int i0), .val (.int i1), .val (.int i2), .val (.int i3), .val (.int ((i1 &&& (255 : Int32)).toUInt32.toUInt16.toUInt32.toInt32)), .val (.int ((i2 &&& (255 : Int32)).toUInt32.toUInt16.toUInt32.toInt32)), .val (.int ((i3 &&& (255 : Int32)).toUInt32.toUInt16.toUInt32.toInt32)), .val (.int (0 : Int32)), .unset, .unset, .unset] [(.ref b2)])
    refine Wl.ofWk ?_
    show Wk _ p l e _ s m _ below meth c n0 _ h29 4 8 (mkF m 44 #[.val (.int i0), .val (.int i1), .val (.int i2), .val (.int i3), .val (.int ((i1 &&& (255 : Int32)).toUInt32.toUInt16.toUInt32.toInt32)), .val (.int ((i2 &&& (255 : Int32)).toUInt32.toUInt16.toUInt32.toInt32)), .val (.int ((i3 &&& (255 : Int32)).toUInt32.toUInt16.toUInt32.toInt32)), .val (.int (0 : Int32)), .unset, .unset, .unset] [(.ref b2)])
    have F32 : Exa Z h29 b2 "java/lang/String" := F24.keep K30
    have F33 : Exa Z h29 b15 "[C" := A18.keep K30
    have F34 : Fa Z h29 b15 .char 0 (fun _ => (.int (0 : Int32))) := F19.keep K30 (nmS (Ne.symm ne20) nm0)
    have sz35 : n0 ≤ h29.size := Nat.le_trans sz27 K30.1
    refine Wk.st (g' := (mkF m 46 #[.val (.int i0), .val (.int i1), .val (.int i2), .val (.int i3), .val (.int ((i1 &&& (255 : Int32)).toUInt32.toUInt16.toUInt32.toInt32)), .val (.int ((i2 &&& (255 : Int32)).toUInt32.toUInt16.toUInt32.toInt32)), .val (.int ((i3 &&& (255 : Int32)).toUInt32.toUInt16.toUInt32.toInt32)), .val (.int (0 : Int32)), .val (.ref b2), .unset, .unset] [])) (fun X t q => XS.astore X.here C.hx rfl (hb C.hby at_44) rfl rfl (l' := #[.val (.int i0), .val (.int i1), .val (.int i2), .val (.int i3), .val (.int ((i1 &&& (255 : Int32)).toUInt32.toUInt16.toUInt32.toInt32)), .val (.int ((i2 &&& (255 : Int32)).toUInt32.toUInt16.toUInt32.toInt32)), .val (.int ((i3 &&& (255 : Int32)).toUInt32.toUInt16.toUInt32.toInt32)), .val (.int (0 : Int32)), .val (.ref b2), .unset, .unset]) rfl q) ?_
    refine Wk.st (g' := (mkF m 123 #[.val (.int i0), .val (.int i1), .val (.int i2), .val (.int i3), .val (.int ((i1 &&& (255 : Int32)).toUInt32.toUInt16.toUInt32.toInt32)), .val (.int ((i2 &&& (255 : Int32)).toUInt32.toUInt16.toUInt32.toInt32)), .val (.int ((i3 &&& (255 : Int32)).toUInt32.toUInt16.toUInt32.toInt32)), .val (.int (0 : Int32)), .val (.ref b2), .unset, .unset] [])) (fun X t q => XS.goto X.here C.hx rfl (pc0 := 46) (pc' := 123) rfl (hb C.hby at_46) (by decide) (by decide) q) ?_
    refine Wk.st (g' := (mkF m 125 #[.val (.int i0), .val (.int i1), .val (.int i2), .val (.int i3), .val (.int ((i1 &&& (255 : Int32)).toUInt32.toUInt16.toUInt32.toInt32)), .val (.int ((i2 &&& (255 : Int32)).toUInt32.toUInt16.toUInt32.toInt32)), .val (.int ((i3 &&& (255 : Int32)).toUInt32.toUInt16.toUInt32.toInt32)), .val (.int (0 : Int32)), .val (.ref b2), .unset, .unset] [(.ref b2)])) (fun X t q => XS.aload X.here C.hx rfl (hb C.hby at_123) rfl rfl q) ?_
    refine Wk.callS C (z := (⟨"com/example/escrow/escrow/LockRecord", "untaken", "(Ljava/lang/String;)Lcom/example/escrow/escrow/LockRecord;"⟩ : MethodName)) (hw _ (List.mem_of_getElem? (i := 22) rfl)) (hw _ (List.mem_of_getElem? (i := 23) rfl)) (hw _ (List.mem_of_getElem? (i := 24) rfl)) (hw _ (List.mem_of_getElem? (i := 25) rfl)) (by decide) (own_4_0 l Z a0 hw n0 h29 sz35 b2 cs S31 F32  ge7 hcs) (w := 0) (by decide) (by decide) pd_2 rfl (rest := []) rfl rfl (Nat.le_of_eq rfl) (by decide) (by decide) at_125 ?_
    rintro _ h37 ⟨n36_b2, rfl, K38, gn45, F39, F40, F41, F42, F43, F44⟩
    show Wk _ p l e _ s m _ below meth c n0 _ h37 7 32 (mkF m 128 #[.val (.int i0), .val (.int i1), .val (.int i2), .val (.int i3), .val (.int ((i1 &&& (255 : Int32)).toUInt32.toUInt16.toUInt32.toInt32)), .val (.int ((i2 &&& (255 : Int32)).toUInt32.toUInt16.toUInt32.toInt32)), .val (.int ((i3 &&& (255 : Int32)).toUInt32.toUInt16.toUInt32.toInt32)), .val (.int (0 : Int32)), .val (.ref b2), .unset, .unset] [(.ref n36_b2)])
    have ne46 : b2 ≠ n36_b2 := Nat.ne_of_lt (Nat.lt_of_lt_of_le F32.lt gn45)
    have ne47 : b15 ≠ n36_b2 := Nat.ne_of_lt (Nat.lt_of_lt_of_le F33.lt gn45)
    have ge48 : n0 ≤ n36_b2 := Nat.le_trans sz35 gn45
    have F49 : Exa Z h37 b2 "java/lang/String" := F32.keep K38
    have F50 : Exa Z h37 b15 "[C" := F33.keep K38
    have F51 : Fa Z h37 b15 .char 0 (fun _ => (.int (0 : Int32))) := F34.keep K38 nm0
    have sz52 : n0 ≤ h37.size := Nat.le_trans sz35 K38.1
    refine Wk.st (g' := (mkF m 130 #[.val (.int i0), .val (.int i1), .val (.int i2), .val (.int i3), .val (.int ((i1 &&& (255 : Int32)).toUInt32.toUInt16.toUInt32.toInt32)), .val (.int ((i2 &&& (255 : Int32)).toUInt32.toUInt16.toUInt32.toInt32)), .val (.int ((i3 &&& (255 : Int32)).toUInt32.toUInt16.toUInt32.toInt32)), .val (.int (0 : Int32)), .val (.ref b2), .val (.ref n36_b2), .unset] [])) (fun X t q => XS.astore X.here C.hx rfl (hb C.hby at_128) rfl rfl (l' := #[.val (.int i0), .val (.int i1), .val (.int i2), .val (.int i3), .val (.int ((i1 &&& (255 : Int32)).toUInt32.toUInt16.toUInt32.toInt32)), .val (.int ((i2 &&& (255 : Int32)).toUInt32.toUInt16.toUInt32.toInt32)), .val (.int ((i3 &&& (255 : Int32)).toUInt32.toUInt16.toUInt32.toInt32)), .val (.int (0 : Int32)), .val (.ref b2), .val (.ref n36_b2), .unset]) rfl q) ?_
    refine Wk.st (g' := (mkF m 132 #[.val (.int i0), .val (.int i1), .val (.int i2), .val (.int i3), .val (.int ((i1 &&& (255 : Int32)).toUInt32.toUInt16.toUInt32.toInt32)), .val (.int ((i2 &&& (255 : Int32)).toUInt32.toUInt16.toUInt32.toInt32)), .val (.int ((i3 &&& (255 : Int32)).toUInt32.toUInt16.toUInt32.toInt32)), .val (.int (0 : Int32)), .val (.ref b2), .val (.ref n36_b2), .unset] [(.ref n36_b2)])) (fun X t q => XS.aload X.here C.hx rfl (hb C.hby at_130) rfl rfl q) ?_
    refine Wk.callV C (x := (⟨"com/example/escrow/escrow/LockRecord", "name", "()Ljava/lang/String;"⟩ : MethodName)) (z := (⟨"com/example/escrow/escrow/LockRecord", "name", "()Ljava/lang/String;"⟩ : MethodName)) (K := "com/example/escrow/escrow/LockRecord") (hw _ (List.mem_of_getElem? (i := 50) rfl)) (hw _ (List.mem_of_getElem? (i := 51) rfl)) (hw _ (List.mem_of_getElem? (i := 53) rfl)) (hw _ (List.mem_of_getElem? (i := 52) rfl)) (hw _ (List.mem_of_getElem? (i := 24) rfl)) (hw _ (List.mem_of_getElem? (i := 54) rfl)) (by decide) (fun s' hZ' => notFace_of_selects (args := #[]) (mvT hZ' (hw _ (List.mem_of_getElem? (i := 53) rfl)))) F39 (own_8_4 l Z a0 hw n0 h37 sz52 n36_b2 b2 cs F49 F39 F40 F41 F42 F43 F44 (Ne.symm ne46) ge48 ge7 hcs) (w := 0) (by decide) (by decide) pd_6 rfl (rest := []) rfl rfl (Nat.le_of_eq rfl) (by decide) (by decide) at_132 ?_
    rintro _ _ ⟨rfl, rfl⟩
    show Wk _ p l e _ s m _ below meth c n0 _ h37 7 32 (mkF m 135 #[.val (.int i0), .val (.int i1), .val (.int i2), .val (.int i3), .val (.int ((i1 &&& (255 : Int32)).toUInt32.toUInt16.toUInt32.toInt32)), .val (.int ((i2 &&& (255 : Int32)).toUInt32.toUInt16.toUInt32.toInt32)), .val (.int ((i3 &&& (255 : Int32)).toUInt32.toUInt16.toUInt32.toInt32)), .val (.int (0 : Int32)), .val (.ref b2), .val (.ref n36_b2), .unset] [(.ref b2)])
    refine Wk.st (g' := (mkF m 137 #[.val (.int i0), .val (.int i1), .val (.int i2), .val (.int i3), .val (.int ((i1 &&& (255 : Int32)).toUInt32.toUInt16.toUInt32.toInt32)), .val (.int ((i2 &&& (255 : Int32)).toUInt32.toUInt16.toUInt32.toInt32)), .val (.int ((i3 &&& (255 : Int32)).toUInt32.toUInt16.toUInt32.toInt32)), .val (.int (0 : Int32)), .val (.ref b2), .val (.ref n36_b2), .val (.ref b2)] [])) (fun X t q => XS.astore X.here C.hx rfl (hb C.hby at_135) rfl rfl (l' := #[.val (.int i0), .val (.int i1), .val (.int i2), .val (.int i3), .val (.int ((i1 &&& (255 : Int32)).toUInt32.toUInt16.toUInt32.toInt32)), .val (.int ((i2 &&& (255 : Int32)).toUInt32.toUInt16.toUInt32.toInt32)), .val (.int ((i3 &&& (255 : Int32)).toUInt32.toUInt16.toUInt32.toInt32)), .val (.int (0 : Int32)), .val (.ref b2), .val (.ref n36_b2), .val (.ref b2)]) rfl q) ?_
    refine Wk.st (g' := (mkF m 139 #[.val (.int i0), .val (.int i1), .val (.int i2), .val (.int i3), .val (.int ((i1 &&& (255 : Int32)).toUInt32.toUInt16.toUInt32.toInt32)), .val (.int ((i2 &&& (255 : Int32)).toUInt32.toUInt16.toUInt32.toInt32)), .val (.int ((i3 &&& (255 : Int32)).toUInt32.toUInt16.toUInt32.toInt32)), .val (.int (0 : Int32)), .val (.ref b2), .val (.ref n36_b2), .val (.ref b2)] [(.ref b2)])) (fun X t q => XS.aload X.here C.hx rfl (hb C.hby at_137) rfl rfl q) ?_
    refine Wk.st (g' := (mkF m 142 #[.val (.int i0), .val (.int i1), .val (.int i2), .val (.int i3), .val (.int ((i1 &&& (255 : Int32)).toUInt32.toUInt16.toUInt32.toInt32)), .val (.int ((i2 &&& (255 : Int32)).toUInt32.toUInt16.toUInt32.toInt32)), .val (.int ((i3 &&& (255 : Int32)).toUInt32.toUInt16.toUInt32.toInt32)), .val (.int (0 : Int32)), .val (.ref b2), .val (.ref n36_b2), .val (.ref b2)] [])) (fun X t q => XS.ifnullNo X.here C.hx rfl (hb C.hby at_139) rfl q) ?_
    refine Wk.st (g' := (mkF m 144 #[.val (.int i0), .val (.int i1), .val (.int i2), .val (.int i3), .val (.int ((i1 &&& (255 : Int32)).toUInt32.toUInt16.toUInt32.toInt32)), .val (.int ((i2 &&& (255 : Int32)).toUInt32.toUInt16.toUInt32.toInt32)), .val (.int ((i3 &&& (255 : Int32)).toUInt32.toUInt16.toUInt32.toInt32)), .val (.int (0 : Int32)), .val (.ref b2), .val (.ref n36_b2), .val (.ref b2)] [(.ref b2)])) (fun X t q => XS.aload X.here C.hx rfl (hb C.hby at_142) rfl rfl q) ?_
    refine Wk.st (g' := (mkF m 146 #[.val (.int i0), .val (.int i1), .val (.int i2), .val (.int i3), .val (.int ((i1 &&& (255 : Int32)).toUInt32.toUInt16.toUInt32.toInt32)), .val (.int ((i2 &&& (255 : Int32)).toUInt32.toUInt16.toUInt32.toInt32)), .val (.int ((i3 &&& (255 : Int32)).toUInt32.toUInt16.toUInt32.toInt32)), .val (.int (0 : Int32)), .val (.ref b2), .val (.ref n36_b2), .val (.ref b2)] [(.ref b2), (.ref b2)])) (fun X t q => XS.aload X.here C.hx rfl (hb C.hby at_144) rfl rfl q) ?_
    refine Wk.callV C (x := (⟨"java/lang/String", "equals", "(Ljava/lang/Object;)Z"⟩ : MethodName)) (z := (⟨"java/lang/String", "equals", "(Ljava/lang/Object;)Z"⟩ : MethodName)) (K := "java/lang/String") (hw _ (List.mem_of_getElem? (i := 55) rfl)) (hw _ (List.mem_of_getElem? (i := 56) rfl)) (hw _ (List.mem_of_getElem? (i := 58) rfl)) (hw _ (List.mem_of_getElem? (i := 57) rfl)) (hw _ (List.mem_of_getElem? (i := 2) rfl)) (hw _ (List.mem_of_getElem? (i := 59) rfl)) (by decide) (fun s' hZ' => notFace_of_selects (args := #[]) (mvT hZ' (hw _ (List.mem_of_getElem? (i := 58) rfl)))) F49 (own_9_5 l Z a0 hw n0 h37 sz52 b2 cs F49 F40  ge7 hcs) (w := 0) (by decide) (by decide) pd_7 rfl (rest := []) rfl rfl (Nat.le_of_eq rfl) (by decide) (by decide) at_146 ?_
    rintro _ _ ⟨rfl, rfl⟩
    show Wk _ p l e _ s m _ below meth c n0 _ h37 7 32 (mkF m 149 #[.val (.int i0), .val (.int i1), .val (.int i2), .val (.int i3), .val (.int ((i1 &&& (255 : Int32)).toUInt32.toUInt16.toUInt32.toInt32)), .val (.int ((i2 &&& (255 : Int32)).toUInt32.toUInt16.toUInt32.toInt32)), .val (.int ((i3 &&& (255 : Int32)).toUInt32.toUInt16.toUInt32.toInt32)), .val (.int (0 : Int32)), .val (.ref b2), .val (.ref n36_b2), .val (.ref b2)] [(.int (1 : Int32))])
    refine Wk.st (g' := (mkF m 152 #[.val (.int i0), .val (.int i1), .val (.int i2), .val (.int i3), .val (.int ((i1 &&& (255 : Int32)).toUInt32.toUInt16.toUInt32.toInt32)), .val (.int ((i2 &&& (255 : Int32)).toUInt32.toUInt16.toUInt32.toInt32)), .val (.int ((i3 &&& (255 : Int32)).toUInt32.toUInt16.toUInt32.toInt32)), .val (.int (0 : Int32)), .val (.ref b2), .val (.ref n36_b2), .val (.ref b2)] [])) (fun X t q => XS.ifNo X.here C.hx rfl (hb C.hby at_149) rfl (XT.i0_eq_f (by decide)) q) ?_
    refine Wk.st (g' := (mkF m 154 #[.val (.int i0), .val (.int i1), .val (.int i2), .val (.int i3), .val (.int ((i1 &&& (255 : Int32)).toUInt32.toUInt16.toUInt32.toInt32)), .val (.int ((i2 &&& (255 : Int32)).toUInt32.toUInt16.toUInt32.toInt32)), .val (.int ((i3 &&& (255 : Int32)).toUInt32.toUInt16.toUInt32.toInt32)), .val (.int (0 : Int32)), .val (.ref b2), .val (.ref n36_b2), .val (.ref b2)] [(.ref n36_b2)])) (fun X t q => XS.aload X.here C.hx rfl (hb C.hby at_152) rfl rfl q) ?_
    refine Wk.callV C (x := (⟨"com/example/escrow/escrow/LockRecord", "token", "()J"⟩ : MethodName)) (z := (⟨"com/example/escrow/escrow/LockRecord", "token", "()J"⟩ : MethodName)) (K := "com/example/escrow/escrow/LockRecord") (hw _ (List.mem_of_getElem? (i := 60) rfl)) (hw _ (List.mem_of_getElem? (i := 61) rfl)) (hw _ (List.mem_of_getElem? (i := 63) rfl)) (hw _ (List.mem_of_getElem? (i := 62) rfl)) (hw _ (List.mem_of_getElem? (i := 24) rfl)) (hw _ (List.mem_of_getElem? (i := 64) rfl)) (by decide) (fun s' hZ' => notFace_of_selects (args := #[]) (mvT hZ' (hw _ (List.mem_of_getElem? (i := 63) rfl)))) F39 (own_10_6 l Z a0 hw n0 h37 sz52 n36_b2 b2 cs F49 F39 F40 F41 F42 F43 F44 (Ne.symm ne46) ge48 ge7 hcs) (w := 0) (by decide) (by decide) pd_8 rfl (rest := []) rfl rfl (Nat.le_of_eq rfl) (by decide) (by decide) at_154 ?_
    rintro _ _ ⟨rfl, rfl⟩
    show Wk _ p l e _ s m _ below meth c n0 _ h37 7 32 (mkF m 157 #[.val (.int i0), .val (.int i1), .val (.int i2), .val (.int i3), .val (.int ((i1 &&& (255 : Int32)).toUInt32.toUInt16.toUInt32.toInt32)), .val (.int ((i2 &&& (255 : Int32)).toUInt32.toUInt16.toUInt32.toInt32)), .val (.int ((i3 &&& (255 : Int32)).toUInt32.toUInt16.toUInt32.toInt32)), .val (.int (0 : Int32)), .val (.ref b2), .val (.ref n36_b2), .val (.ref b2)] [(.long (0 : Int64))])
    refine Wk.st (g' := (mkF m 158 #[.val (.int i0), .val (.int i1), .val (.int i2), .val (.int i3), .val (.int ((i1 &&& (255 : Int32)).toUInt32.toUInt16.toUInt32.toInt32)), .val (.int ((i2 &&& (255 : Int32)).toUInt32.toUInt16.toUInt32.toInt32)), .val (.int ((i3 &&& (255 : Int32)).toUInt32.toUInt16.toUInt32.toInt32)), .val (.int (0 : Int32)), .val (.ref b2), .val (.ref n36_b2), .val (.ref b2)] [(.long (0 : Int64)), (.long (0 : Int64))])) (fun X t q => XS.lconst X.here C.hx rfl (hb C.hby at_157) q) ?_
    refine Wk.st (g' := (mkF m 159 #[.val (.int i0), .val (.int i1), .val (.int i2), .val (.int i3), .val (.int ((i1 &&& (255 : Int32)).toUInt32.toUInt16.toUInt32.toInt32)), .val (.int ((i2 &&& (255 : Int32)).toUInt32.toUInt16.toUInt32.toInt32)), .val (.int ((i3 &&& (255 : Int32)).toUInt32.toUInt16.toUInt32.toInt32)), .val (.int (0 : Int32)), .val (.ref b2), .val (.ref n36_b2), .val (.ref b2)] [(.int (XT.cmpL (0 : Int64) (0 : Int64)))])) (fun X t q => XT.lcmp X.here C.hx rfl (hb C.hby at_158) rfl q) ?_
    refine Wk.st (g' := (mkF m 162 #[.val (.int i0), .val (.int i1), .val (.int i2), .val (.int i3), .val (.int ((i1 &&& (255 : Int32)).toUInt32.toUInt16.toUInt32.toInt32)), .val (.int ((i2 &&& (255 : Int32)).toUInt32.toUInt16.toUInt32.toInt32)), .val (.int ((i3 &&& (255 : Int32)).toUInt32.toUInt16.toUInt32.toInt32)), .val (.int (0 : Int32)), .val (.ref b2), .val (.ref n36_b2), .val (.ref b2)] [])) (fun X t q => XS.ifNo X.here C.hx rfl (hb C.hby at_159) rfl (XT.ll_ne_f (by decide)) q) ?_
    refine Wk.st (g' := (mkF m 164 #[.val (.int i0), .val (.int i1), .val (.int i2), .val (.int i3), .val (.int ((i1 &&& (255 : Int32)).toUInt32.toUInt16.toUInt32.toInt32)), .val (.int ((i2 &&& (255 : Int32)).toUInt32.toUInt16.toUInt32.toInt32)), .val (.int ((i3 &&& (255 : Int32)).toUInt32.toUInt16.toUInt32.toInt32)), .val (.int (0 : Int32)), .val (.ref b2), .val (.ref n36_b2), .val (.ref b2)] [(.ref n36_b2)])) (fun X t q => XS.aload X.here C.hx rfl (hb C.hby at_162) rfl rfl q) ?_
    refine Wk.callV C (x := (⟨"com/example/escrow/escrow/LockRecord", "owner", "()Ljava/lang/String;"⟩ : MethodName)) (z := (⟨"com/example/escrow/escrow/LockRecord", "owner", "()Ljava/lang/String;"⟩ : MethodName)) (K := "com/example/escrow/escrow/LockRecord") (hw _ (List.mem_of_getElem? (i := 65) rfl)) (hw _ (List.mem_of_getElem? (i := 66) rfl)) (hw _ (List.mem_of_getElem? (i := 68) rfl)) (hw _ (List.mem_of_getElem? (i := 67) rfl)) (hw _ (List.mem_of_getElem? (i := 24) rfl)) (hw _ (List.mem_of_getElem? (i := 69) rfl)) (by decide) (fun s' hZ' => notFace_of_selects (args := #[]) (mvT hZ' (hw _ (List.mem_of_getElem? (i := 68) rfl)))) F39 (own_11_7 l Z a0 hw n0 h37 sz52 n36_b2 b2 cs F49 F39 F40 F41 F42 F43 F44 (Ne.symm ne46) ge48 ge7 hcs) (w := 0) (by decide) (by decide) pd_6 rfl (rest := []) rfl rfl (Nat.le_of_eq rfl) (by decide) (by decide) at_164 ?_
    rintro _ _ ⟨rfl, rfl⟩
    show Wk _ p l e _ s m _ below meth c n0 _ h37 7 32 (mkF m 167 #[.val (.int i0), .val (.int i1), .val (.int i2), .val (.int i3), .val (.int ((i1 &&& (255 : Int32)).toUInt32.toUInt16.toUInt32.toInt32)), .val (.int ((i2 &&& (255 : Int32)).toUInt32.toUInt16.toUInt32.toInt32)), .val (.int ((i3 &&& (255 : Int32)).toUInt32.toUInt16.toUInt32.toInt32)), .val (.int (0 : Int32)), .val (.ref b2), .val (.ref n36_b2), .val (.ref b2)] [.null])
    refine Wk.st (g' := (mkF m 170 #[.val (.int i0), .val (.int i1), .val (.int i2), .val (.int i3), .val (.int ((i1 &&& (255 : Int32)).toUInt32.toUInt16.toUInt32.toInt32)), .val (.int ((i2 &&& (255 : Int32)).toUInt32.toUInt16.toUInt32.toInt32)), .val (.int ((i3 &&& (255 : Int32)).toUInt32.toUInt16.toUInt32.toInt32)), .val (.int (0 : Int32)), .val (.ref b2), .val (.ref n36_b2), .val (.ref b2)] [])) (fun X t q => XS.ifnonnullNo X.here C.hx rfl (hb C.hby at_167) rfl q) ?_
    refine Wk.st (g' := (mkF m 172 #[.val (.int i0), .val (.int i1), .val (.int i2), .val (.int i3), .val (.int ((i1 &&& (255 : Int32)).toUInt32.toUInt16.toUInt32.toInt32)), .val (.int ((i2 &&& (255 : Int32)).toUInt32.toUInt16.toUInt32.toInt32)), .val (.int ((i3 &&& (255 : Int32)).toUInt32.toUInt16.toUInt32.toInt32)), .val (.int (0 : Int32)), .val (.ref b2), .val (.ref n36_b2), .val (.ref b2)] [(.ref n36_b2)])) (fun X t q => XS.aload X.here C.hx rfl (hb C.hby at_170) rfl rfl q) ?_
    refine Wk.callV C (x := (⟨"com/example/escrow/escrow/LockRecord", "claim", "()Lcom/example/escrow/escrow/Claim;"⟩ : MethodName)) (z := (⟨"com/example/escrow/escrow/LockRecord", "claim", "()Lcom/example/escrow/escrow/Claim;"⟩ : MethodName)) (K := "com/example/escrow/escrow/LockRecord") (hw _ (List.mem_of_getElem? (i := 70) rfl)) (hw _ (List.mem_of_getElem? (i := 71) rfl)) (hw _ (List.mem_of_getElem? (i := 73) rfl)) (hw _ (List.mem_of_getElem? (i := 72) rfl)) (hw _ (List.mem_of_getElem? (i := 24) rfl)) (hw _ (List.mem_of_getElem? (i := 74) rfl)) (by decide) (fun s' hZ' => notFace_of_selects (args := #[]) (mvT hZ' (hw _ (List.mem_of_getElem? (i := 73) rfl)))) F39 (own_12_8 l Z a0 hw n0 h37 sz52 n36_b2 b2 cs F49 F39 F40 F41 F42 F43 F44 (Ne.symm ne46) ge48 ge7 hcs) (w := 0) (by decide) (by decide) pd_9 rfl (rest := []) rfl rfl (Nat.le_of_eq rfl) (by decide) (by decide) at_172 ?_
    rintro _ _ ⟨rfl, rfl⟩
    show Wk _ p l e _ s m _ below meth c n0 _ h37 7 32 (mkF m 175 #[.val (.int i0), .val (.int i1), .val (.int i2), .val (.int i3), .val (.int ((i1 &&& (255 : Int32)).toUInt32.toUInt16.toUInt32.toInt32)), .val (.int ((i2 &&& (255 : Int32)).toUInt32.toUInt16.toUInt32.toInt32)), .val (.int ((i3 &&& (255 : Int32)).toUInt32.toUInt16.toUInt32.toInt32)), .val (.int (0 : Int32)), .val (.ref b2), .val (.ref n36_b2), .val (.ref b2)] [.null])
    refine Wk.st (g' := (mkF m 178 #[.val (.int i0), .val (.int i1), .val (.int i2), .val (.int i3), .val (.int ((i1 &&& (255 : Int32)).toUInt32.toUInt16.toUInt32.toInt32)), .val (.int ((i2 &&& (255 : Int32)).toUInt32.toUInt16.toUInt32.toInt32)), .val (.int ((i3 &&& (255 : Int32)).toUInt32.toUInt16.toUInt32.toInt32)), .val (.int (0 : Int32)), .val (.ref b2), .val (.ref n36_b2), .val (.ref b2)] [])) (fun X t q => XS.ifnonnullNo X.here C.hx rfl (hb C.hby at_175) rfl q) ?_
    refine Wk.st (g' := (mkF m 179 #[.val (.int i0), .val (.int i1), .val (.int i2), .val (.int i3), .val (.int ((i1 &&& (255 : Int32)).toUInt32.toUInt16.toUInt32.toInt32)), .val (.int ((i2 &&& (255 : Int32)).toUInt32.toUInt16.toUInt32.toInt32)), .val (.int ((i3 &&& (255 : Int32)).toUInt32.toUInt16.toUInt32.toInt32)), .val (.int (0 : Int32)), .val (.ref b2), .val (.ref n36_b2), .val (.ref b2)] [(.int (1 : Int32))])) (fun X t q => XS.iconst X.here C.hx rfl (hb C.hby at_178) q) ?_
    refine Wk.st (g' := (mkF m 183 #[.val (.int i0), .val (.int i1), .val (.int i2), .val (.int i3), .val (.int ((i1 &&& (255 : Int32)).toUInt32.toUInt16.toUInt32.toInt32)), .val (.int ((i2 &&& (255 : Int32)).toUInt32.toUInt16.toUInt32.toInt32)), .val (.int ((i3 &&& (255 : Int32)).toUInt32.toUInt16.toUInt32.toInt32)), .val (.int (0 : Int32)), .val (.ref b2), .val (.ref n36_b2), .val (.ref b2)] [(.int (1 : Int32))])) (fun X t q => XS.goto X.here C.hx rfl (pc0 := 179) (pc' := 183) rfl (hb C.hby at_179) (by decide) (by decide) q) ?_
    exact Wk.retV C (t := .boolean) rfl rfl (Or.inl ⟨rfl, by simp, _, rfl⟩) at_183 (by decide) (by decide) rfl
  · skip
    show Wl _ p l e _ s m _ below meth c n0 _ (some ("", 0, 0)) h0 0 0 (mkF m 29 #[.val (.int i0), .val (.int i1), .val (.int i2), .val (.int i3), .val (.int ((i1 &&& (255 : Int32)).toUInt32.toUInt16.toUInt32.toInt32)), .val (.int ((i2 &&& (255 : Int32)).toUInt32.toUInt16.toUInt32.toInt32)), .val (.int ((i3 &&& (255 : Int32)).toUInt32.toUInt16.toUInt32.toInt32)), .val (.int (1 : Int32)), .unset, .unset, .unset] [])
    refine Wl.ofWk ?_
    show Wk _ p l e _ s m _ below meth c n0 _ h0 0 0 (mkF m 29 #[.val (.int i0), .val (.int i1), .val (.int i2), .val (.int i3), .val (.int ((i1 &&& (255 : Int32)).toUInt32.toUInt16.toUInt32.toInt32)), .val (.int ((i2 &&& (255 : Int32)).toUInt32.toUInt16.toUInt32.toInt32)), .val (.int ((i3 &&& (255 : Int32)).toUInt32.toUInt16.toUInt32.toInt32)), .val (.int (1 : Int32)), .unset, .unset, .unset] [])
    refine Wk.st (g' := (mkF m 31 #[.val (.int i0), .val (.int i1), .val (.int i2), .val (.int i3), .val (.int ((i1 &&& (255 : Int32)).toUInt32.toUInt16.toUInt32.toInt32)), .val (.int ((i2 &&& (255 : Int32)).toUInt32.toUInt16.toUInt32.toInt32)), .val (.int ((i3 &&& (255 : Int32)).toUInt32.toUInt16.toUInt32.toInt32)), .val (.int (1 : Int32)), .unset, .unset, .unset] [(.int (1 : Int32))])) (fun X t q => XS.iload X.here C.hx rfl (hb C.hby at_29) rfl q) ?_
    refine Wk.st (g' := (mkF m 49 #[.val (.int i0), .val (.int i1), .val (.int i2), .val (.int i3), .val (.int ((i1 &&& (255 : Int32)).toUInt32.toUInt16.toUInt32.toInt32)), .val (.int ((i2 &&& (255 : Int32)).toUInt32.toUInt16.toUInt32.toInt32)), .val (.int ((i3 &&& (255 : Int32)).toUInt32.toUInt16.toUInt32.toInt32)), .val (.int (1 : Int32)), .unset, .unset, .unset] [])) (fun X t q => XS.ifYes X.here C.hx rfl (pc0 := 31) (pc' := 49) rfl (hb C.hby at_31) rfl (XT.i0_ne_t (by decide)) (by decide) (by decide) q) ?_
    refine Wk.st (g' := (mkF m 51 #[.val (.int i0), .val (.int i1), .val (.int i2), .val (.int i3), .val (.int ((i1 &&& (255 : Int32)).toUInt32.toUInt16.toUInt32.toInt32)), .val (.int ((i2 &&& (255 : Int32)).toUInt32.toUInt16.toUInt32.toInt32)), .val (.int ((i3 &&& (255 : Int32)).toUInt32.toUInt16.toUInt32.toInt32)), .val (.int (1 : Int32)), .unset, .unset, .unset] [(.int (1 : Int32))])) (fun X t q => XS.iload X.here C.hx rfl (hb C.hby at_49) rfl q) ?_
    refine Wk.st (g' := (mkF m 52 #[.val (.int i0), .val (.int i1), .val (.int i2), .val (.int i3), .val (.int ((i1 &&& (255 : Int32)).toUInt32.toUInt16.toUInt32.toInt32)), .val (.int ((i2 &&& (255 : Int32)).toUInt32.toUInt16.toUInt32.toInt32)), .val (.int ((i3 &&& (255 : Int32)).toUInt32.toUInt16.toUInt32.toInt32)), .val (.int (1 : Int32)), .unset, .unset, .unset] [(.int (1 : Int32)), (.int (1 : Int32))])) (fun X t q => XS.iconst X.here C.hx rfl (hb C.hby at_51) q) ?_
    refine Wk.st (g' := (mkF m 55 #[.val (.int i0), .val (.int i1), .val (.int i2), .val (.int i3), .val (.int ((i1 &&& (255 : Int32)).toUInt32.toUInt16.toUInt32.toInt32)), .val (.int ((i2 &&& (255 : Int32)).toUInt32.toUInt16.toUInt32.toInt32)), .val (.int ((i3 &&& (255 : Int32)).toUInt32.toUInt16.toUInt32.toInt32)), .val (.int (1 : Int32)), .unset, .unset, .unset] [])) (fun X t q => XS.icmpNo X.here C.hx rfl (hb C.hby at_52) rfl (XT.ii_ne_f (by decide)) q) ?_
    refine Wk.st (g' := (mkF m 57 #[.val (.int i0), .val (.int i1), .val (.int i2), .val (.int i3), .val (.int ((i1 &&& (255 : Int32)).toUInt32.toUInt16.toUInt32.toInt32)), .val (.int ((i2 &&& (255 : Int32)).toUInt32.toUInt16.toUInt32.toInt32)), .val (.int ((i3 &&& (255 : Int32)).toUInt32.toUInt16.toUInt32.toInt32)), .val (.int (1 : Int32)), .unset, .unset, .unset] [(.int ((i1 &&& (255 : Int32)).toUInt32.toUInt16.toUInt32.toInt32))])) (fun X t q => XS.iload X.here C.hx rfl (hb C.hby at_55) rfl q) ?_
    refine Wk.callS C (z := (⟨"java/lang/String", "valueOf", "(C)Ljava/lang/String;"⟩ : MethodName)) (hw _ (List.mem_of_getElem? (i := 86) rfl)) (hw _ (List.mem_of_getElem? (i := 87) rfl)) (hw _ (List.mem_of_getElem? (i := 2) rfl)) (hw _ (List.mem_of_getElem? (i := 88) rfl)) (by decide) (own_16_9 l Z a0 hw n0 h0 hsz  ((i1 &&& (255 : Int32)).toUInt32.toUInt16.toUInt32.toInt32) cs SC   (lat0 i1) hcs) (w := 0) (by decide) (by decide) pd_10 rfl (rest := []) rfl rfl (Nat.le_of_eq rfl) (by decide) (by decide) at_57 ?_
    rintro _ h69 ⟨n68_b5, n68_n18_b2, rfl, K70, gn77, gn78, ne79, F71, F72, F73, F74, F75, F76⟩
    show Wk _ p l e _ s m _ below meth c n0 _ h69 2 5 (mkF m 60 #[.val (.int i0), .val (.int i1), .val (.int i2), .val (.int i3), .val (.int ((i1 &&& (255 : Int32)).toUInt32.toUInt16.toUInt32.toInt32)), .val (.int ((i2 &&& (255 : Int32)).toUInt32.toUInt16.toUInt32.toInt32)), .val (.int ((i3 &&& (255 : Int32)).toUInt32.toUInt16.toUInt32.toInt32)), .val (.int (1 : Int32)), .unset, .unset, .unset] [(.ref n68_b5)])
    have ge80 : n0 ≤ n68_b5 := Nat.le_trans hsz gn77
    have gz81 : h0.size ≤ n68_b5 := Nat.le_trans (Nat.le_refl h0.size) gn77
    have ge82 : n0 ≤ n68_n18_b2 := Nat.le_trans hsz gn78
    have gz83 : h0.size ≤ n68_n18_b2 := Nat.le_trans (Nat.le_refl h0.size) gn78
    have sz84 : n0 ≤ h69.size := Nat.le_trans hsz K70.1
    have sy85 : h0.size ≤ h69.size := Nat.le_trans (Nat.le_refl h0.size) K70.1
    refine Wk.st (g' := (mkF m 62 #[.val (.int i0), .val (.int i1), .val (.int i2), .val (.int i3), .val (.int ((i1 &&& (255 : Int32)).toUInt32.toUInt16.toUInt32.toInt32)), .val (.int ((i2 &&& (255 : Int32)).toUInt32.toUInt16.toUInt32.toInt32)), .val (.int ((i3 &&& (255 : Int32)).toUInt32.toUInt16.toUInt32.toInt32)), .val (.int (1 : Int32)), .val (.ref n68_b5), .unset, .unset] [])) (fun X t q => XS.astore X.here C.hx rfl (hb C.hby at_60) rfl rfl (l' := #[.val (.int i0), .val (.int i1), .val (.int i2), .val (.int i3), .val (.int ((i1 &&& (255 : Int32)).toUInt32.toUInt16.toUInt32.toInt32)), .val (.int ((i2 &&& (255 : Int32)).toUInt32.toUInt16.toUInt32.toInt32)), .val (.int ((i3 &&& (255 : Int32)).toUInt32.toUInt16.toUInt32.toInt32)), .val (.int (1 : Int32)), .val (.ref n68_b5), .unset, .unset]) rfl q) ?_
    refine Wk.st (g' := (mkF m 123 #[.val (.int i0), .val (.int i1), .val (.int i2), .val (.int i3), .val (.int ((i1 &&& (255 : Int32)).toUInt32.toUInt16.toUInt32.toInt32)), .val (.int ((i2 &&& (255 : Int32)).toUInt32.toUInt16.toUInt32.toInt32)), .val (.int ((i3 &&& (255 : Int32)).toUInt32.toUInt16.toUInt32.toInt32)), .val (.int (1 : Int32)), .val (.ref n68_b5), .unset, .unset] [])) (fun X t q => XS.goto X.here C.hx rfl (pc0 := 62) (pc' := 123) rfl (hb C.hby at_62) (by decide) (by decide) q) ?_
    refine Wk.st (g' := (mkF m 125 #[.val (.int i0), .val (.int i1), .val (.int i2), .val (.int i3), .val (.int ((i1 &&& (255 : Int32)).toUInt32.toUInt16.toUInt32.toInt32)), .val (.int ((i2 &&& (255 : Int32)).toUInt32.toUInt16.toUInt32.toInt32)), .val (.int ((i3 &&& (255 : Int32)).toUInt32.toUInt16.toUInt32.toInt32)), .val (.int (1 : Int32)), .val (.ref n68_b5), .unset, .unset] [(.ref n68_b5)])) (fun X t q => XS.aload X.here C.hx rfl (hb C.hby at_123) rfl rfl q) ?_
    refine Wk.callS C (z := (⟨"com/example/escrow/escrow/LockRecord", "untaken", "(Ljava/lang/String;)Lcom/example/escrow/escrow/LockRecord;"⟩ : MethodName)) (hw _ (List.mem_of_getElem? (i := 22) rfl)) (hw _ (List.mem_of_getElem? (i := 23) rfl)) (hw _ (List.mem_of_getElem? (i := 24) rfl)) (hw _ (List.mem_of_getElem? (i := 25) rfl)) (by decide) (own_4_13 l Z a0 hw n0 h69 sz84 n68_b5 n68_n18_b2 (nar .byte (((i1 &&& (255 : Int32)).toUInt32.toUInt16.toUInt32.toInt32).toInt8.toInt32)) cs F71 F72 F73 F74 F75 F76 ne79 ge80 ge82 hcs) (w := 0) (by decide) (by decide) pd_2 rfl (rest := []) rfl rfl (Nat.le_of_eq rfl) (by decide) (by decide) at_125 ?_
    rintro _ h87 ⟨n86_b2, rfl, K88, gn95, F89, F90, F91, F92, F93, F94⟩
    show Wk _ p l e _ s m _ below meth c n0 _ h87 5 29 (mkF m 128 #[.val (.int i0), .val (.int i1), .val (.int i2), .val (.int i3), .val (.int ((i1 &&& (255 : Int32)).toUInt32.toUInt16.toUInt32.toInt32)), .val (.int ((i2 &&& (255 : Int32)).toUInt32.toUInt16.toUInt32.toInt32)), .val (.int ((i3 &&& (255 : Int32)).toUInt32.toUInt16.toUInt32.toInt32)), .val (.int (1 : Int32)), .val (.ref n68_b5), .unset, .unset] [(.ref n86_b2)])
    have ne96 : n68_b5 ≠ n86_b2 := Nat.ne_of_lt (Nat.lt_of_lt_of_le F71.lt gn95)
    have ne97 : n68_n18_b2 ≠ n86_b2 := Nat.ne_of_lt (Nat.lt_of_lt_of_le F72.lt gn95)
    have ge98 : n0 ≤ n86_b2 := Nat.le_trans sz84 gn95
    have gz99 : h0.size ≤ n86_b2 := Nat.le_trans sy85 gn95
    have F100 : Exa Z h87 n68_b5 "java/lang/String" := F71.keep K88
    have F101 : Exa Z h87 n68_n18_b2 "[B" := F72.keep K88
    have F102 : Fa Z h87 n68_n18_b2 .byte 1 (up (fun _ => (.int (0 : Int32))) 0 (.int (nar .byte (((i1 &&& (255 : Int32)).toUInt32.toUInt16.toUInt32.toInt32).toInt8.toInt32)))) := F73.keep K88 nm0
    have F103 : Fld Z h87 n68_b5 "java/lang/String" "value" "[B" (.ref n68_n18_b2) := F75.keep K88 nm0
    have F104 : Fld Z h87 n68_b5 "java/lang/String" "coder" "B" (.int (0 : Int32)) := F76.keep K88 nm0
    have sz105 : n0 ≤ h87.size := Nat.le_trans sz84 K88.1
    have sy106 : h0.size ≤ h87.size := Nat.le_trans sy85 K88.1
    refine Wk.st (g' := (mkF m 130 #[.val (.int i0), .val (.int i1), .val (.int i2), .val (.int i3), .val (.int ((i1 &&& (255 : Int32)).toUInt32.toUInt16.toUInt32.toInt32)), .val (.int ((i2 &&& (255 : Int32)).toUInt32.toUInt16.toUInt32.toInt32)), .val (.int ((i3 &&& (255 : Int32)).toUInt32.toUInt16.toUInt32.toInt32)), .val (.int (1 : Int32)), .val (.ref n68_b5), .val (.ref n86_b2), .unset] [])) (fun X t q => XS.astore X.here C.hx rfl (hb C.hby at_128) rfl rfl (l' := #[.val (.int i0), .val (.int i1), .val (.int i2), .val (.int i3), .val (.int ((i1 &&& (255 : Int32)).toUInt32.toUInt16.toUInt32.toInt32)), .val (.int ((i2 &&& (255 : Int32)).toUInt32.toUInt16.toUInt32.toInt32)), .val (.int ((i3 &&& (255 : Int32)).toUInt32.toUInt16.toUInt32.toInt32)), .val (.int (1 : Int32)), .val (.ref n68_b5), .val (.ref n86_b2), .unset]) rfl q) ?_
    refine Wk.st (g' := (mkF m 132 #[.val (.int i0), .val (.int i1), .val (.int i2), .val (.int i3), .val (.int ((i1 &&& (255 : Int32)).toUInt32.toUInt16.toUInt32.toInt32)), .val (.int ((i2 &&& (255 : Int32)).toUInt32.toUInt16.toUInt32.toInt32)), .val (.int ((i3 &&& (255 : Int32)).toUInt32.toUInt16.toUInt32.toInt32)), .val (.int (1 : Int32)), .val (.ref n68_b5), .val (.ref n86_b2), .unset] [(.ref n86_b2)])) (fun X t q => XS.aload X.here C.hx rfl (hb C.hby at_130) rfl rfl q) ?_
    refine Wk.callV C (x := (⟨"com/example/escrow/escrow/LockRecord", "name", "()Ljava/lang/String;"⟩ : MethodName)) (z := (⟨"com/example/escrow/escrow/LockRecord", "name", "()Ljava/lang/String;"⟩ : MethodName)) (K := "com/example/escrow/escrow/LockRecord") (hw _ (List.mem_of_getElem? (i := 50) rfl)) (hw _ (List.mem_of_getElem? (i := 51) rfl)) (hw _ (List.mem_of_getElem? (i := 53) rfl)) (hw _ (List.mem_of_getElem? (i := 52) rfl)) (hw _ (List.mem_of_getElem? (i := 24) rfl)) (hw _ (List.mem_of_getElem? (i := 54) rfl)) (by decide) (fun s' hZ' => notFace_of_selects (args := #[]) (mvT hZ' (hw _ (List.mem_of_getElem? (i := 53) rfl)))) F89 (own_8_16 l Z a0 hw n0 h87 sz105 n86_b2 n68_b5 n68_n18_b2 (nar .byte (((i1 &&& (255 : Int32)).toUInt32.toUInt16.toUInt32.toInt32).toInt8.toInt32)) cs F100 F101 F102 F103 F104 F89 F90 F91 F92 F93 F94 (Ne.symm ne96) (Ne.symm ne97) ne79 ge98 ge80 ge82 hcs) (w := 0) (by decide) (by decide) pd_6 rfl (rest := []) rfl rfl (Nat.le_of_eq rfl) (by decide) (by decide) at_132 ?_
    rintro _ _ ⟨rfl, rfl⟩
    show Wk _ p l e _ s m _ below meth c n0 _ h87 5 29 (mkF m 135 #[.val (.int i0), .val (.int i1), .val (.int i2), .val (.int i3), .val (.int ((i1 &&& (255 : Int32)).toUInt32.toUInt16.toUInt32.toInt32)), .val (.int ((i2 &&& (255 : Int32)).toUInt32.toUInt16.toUInt32.toInt32)), .val (.int ((i3 &&& (255 : Int32)).toUInt32.toUInt16.toUInt32.toInt32)), .val (.int (1 : Int32)), .val (.ref n68_b5), .val (.ref n86_b2), .unset] [(.ref n68_b5)])
    refine Wk.st (g' := (mkF m 137 #[.val (.int i0), .val (.int i1), .val (.int i2), .val (.int i3), .val (.int ((i1 &&& (255 : Int32)).toUInt32.toUInt16.toUInt32.toInt32)), .val (.int ((i2 &&& (255 : Int32)).toUInt32.toUInt16.toUInt32.toInt32)), .val (.int ((i3 &&& (255 : Int32)).toUInt32.toUInt16.toUInt32.toInt32)), .val (.int (1 : Int32)), .val (.ref n68_b5), .val (.ref n86_b2), .val (.ref n68_b5)] [])) (fun X t q => XS.astore X.here C.hx rfl (hb C.hby at_135) rfl rfl (l' := #[.val (.int i0), .val (.int i1), .val (.int i2), .val (.int i3), .val (.int ((i1 &&& (255 : Int32)).toUInt32.toUInt16.toUInt32.toInt32)), .val (.int ((i2 &&& (255 : Int32)).toUInt32.toUInt16.toUInt32.toInt32)), .val (.int ((i3 &&& (255 : Int32)).toUInt32.toUInt16.toUInt32.toInt32)), .val (.int (1 : Int32)), .val (.ref n68_b5), .val (.ref n86_b2), .val (.ref n68_b5)]) rfl q) ?_
    refine Wk.st (g' := (mkF m 139 #[.val (.int i0), .val (.int i1), .val (.int i2), .val (.int i3), .val (.int ((i1 &&& (255 : Int32)).toUInt32.toUInt16.toUInt32.toInt32)), .val (.int ((i2 &&& (255 : Int32)).toUInt32.toUInt16.toUInt32.toInt32)), .val (.int ((i3 &&& (255 : Int32)).toUInt32.toUInt16.toUInt32.toInt32)), .val (.int (1 : Int32)), .val (.ref n68_b5), .val (.ref n86_b2), .val (.ref n68_b5)] [(.ref n68_b5)])) (fun X t q => XS.aload X.here C.hx rfl (hb C.hby at_137) rfl rfl q) ?_
    refine Wk.st (g' := (mkF m 142 #[.val (.int i0), .val (.int i1), .val (.int i2), .val (.int i3), .val (.int ((i1 &&& (255 : Int32)).toUInt32.toUInt16.toUInt32.toInt32)), .val (.int ((i2 &&& (255 : Int32)).toUInt32.toUInt16.toUInt32.toInt32)), .val (.int ((i3 &&& (255 : Int32)).toUInt32.toUInt16.toUInt32.toInt32)), .val (.int (1 : Int32)), .val (.ref n68_b5), .val (.ref n86_b2), .val (.ref n68_b5)] [])) (fun X t q => XS.ifnullNo X.here C.hx rfl (hb C.hby at_139) rfl q) ?_
    refine Wk.st (g' := (mkF m 144 #[.val (.int i0), .val (.int i1), .val (.int i2), .val (.int i3), .val (.int ((i1 &&& (255 : Int32)).toUInt32.toUInt16.toUInt32.toInt32)), .val (.int ((i2 &&& (255 : Int32)).toUInt32.toUInt16.toUInt32.toInt32)), .val (.int ((i3 &&& (255 : Int32)).toUInt32.toUInt16.toUInt32.toInt32)), .val (.int (1 : Int32)), .val (.ref n68_b5), .val (.ref n86_b2), .val (.ref n68_b5)] [(.ref n68_b5)])) (fun X t q => XS.aload X.here C.hx rfl (hb C.hby at_142) rfl rfl q) ?_
    refine Wk.st (g' := (mkF m 146 #[.val (.int i0), .val (.int i1), .val (.int i2), .val (.int i3), .val (.int ((i1 &&& (255 : Int32)).toUInt32.toUInt16.toUInt32.toInt32)), .val (.int ((i2 &&& (255 : Int32)).toUInt32.toUInt16.toUInt32.toInt32)), .val (.int ((i3 &&& (255 : Int32)).toUInt32.toUInt16.toUInt32.toInt32)), .val (.int (1 : Int32)), .val (.ref n68_b5), .val (.ref n86_b2), .val (.ref n68_b5)] [(.ref n68_b5), (.ref n68_b5)])) (fun X t q => XS.aload X.here C.hx rfl (hb C.hby at_144) rfl rfl q) ?_
    refine Wk.callV C (x := (⟨"java/lang/String", "equals", "(Ljava/lang/Object;)Z"⟩ : MethodName)) (z := (⟨"java/lang/String", "equals", "(Ljava/lang/Object;)Z"⟩ : MethodName)) (K := "java/lang/String") (hw _ (List.mem_of_getElem? (i := 55) rfl)) (hw _ (List.mem_of_getElem? (i := 56) rfl)) (hw _ (List.mem_of_getElem? (i := 58) rfl)) (hw _ (List.mem_of_getElem? (i := 57) rfl)) (hw _ (List.mem_of_getElem? (i := 2) rfl)) (hw _ (List.mem_of_getElem? (i := 59) rfl)) (by decide) (fun s' hZ' => notFace_of_selects (args := #[]) (mvT hZ' (hw _ (List.mem_of_getElem? (i := 58) rfl)))) F100 (own_9_17 l Z a0 hw n0 h87 sz105 n68_b5 n68_n18_b2 (nar .byte (((i1 &&& (255 : Int32)).toUInt32.toUInt16.toUInt32.toInt32).toInt8.toInt32)) cs F100 F101 F102 F103 F104 F90 ne79 ge80 ge82 hcs) (w := 0) (by decide) (by decide) pd_7 rfl (rest := []) rfl rfl (Nat.le_of_eq rfl) (by decide) (by decide) at_146 ?_
    rintro _ _ ⟨rfl, rfl⟩
    show Wk _ p l e _ s m _ below meth c n0 _ h87 5 29 (mkF m 149 #[.val (.int i0), .val (.int i1), .val (.int i2), .val (.int i3), .val (.int ((i1 &&& (255 : Int32)).toUInt32.toUInt16.toUInt32.toInt32)), .val (.int ((i2 &&& (255 : Int32)).toUInt32.toUInt16.toUInt32.toInt32)), .val (.int ((i3 &&& (255 : Int32)).toUInt32.toUInt16.toUInt32.toInt32)), .val (.int (1 : Int32)), .val (.ref n68_b5), .val (.ref n86_b2), .val (.ref n68_b5)] [(.int (1 : Int32))])
    refine Wk.st (g' := (mkF m 152 #[.val (.int i0), .val (.int i1), .val (.int i2), .val (.int i3), .val (.int ((i1 &&& (255 : Int32)).toUInt32.toUInt16.toUInt32.toInt32)), .val (.int ((i2 &&& (255 : Int32)).toUInt32.toUInt16.toUInt32.toInt32)), .val (.int ((i3 &&& (255 : Int32)).toUInt32.toUInt16.toUInt32.toInt32)), .val (.int (1 : Int32)), .val (.ref n68_b5), .val (.ref n86_b2), .val (.ref n68_b5)] [])) (fun X t q => XS.ifNo X.here C.hx rfl (hb C.hby at_149) rfl (XT.i0_eq_f (by decide)) q) ?_
    refine Wk.st (g' := (mkF m 154 #[.val (.int i0), .val (.int i1), .val (.int i2), .val (.int i3), .val (.int ((i1 &&& (255 : Int32)).toUInt32.toUInt16.toUInt32.toInt32)), .val (.int ((i2 &&& (255 : Int32)).toUInt32.toUInt16.toUInt32.toInt32)), .val (.int ((i3 &&& (255 : Int32)).toUInt32.toUInt16.toUInt32.toInt32)), .val (.int (1 : Int32)), .val (.ref n68_b5), .val (.ref n86_b2), .val (.ref n68_b5)] [(.ref n86_b2)])) (fun X t q => XS.aload X.here C.hx rfl (hb C.hby at_152) rfl rfl q) ?_
    refine Wk.callV C (x := (⟨"com/example/escrow/escrow/LockRecord", "token", "()J"⟩ : MethodName)) (z := (⟨"com/example/escrow/escrow/LockRecord", "token", "()J"⟩ : MethodName)) (K := "com/example/escrow/escrow/LockRecord") (hw _ (List.mem_of_getElem? (i := 60) rfl)) (hw _ (List.mem_of_getElem? (i := 61) rfl)) (hw _ (List.mem_of_getElem? (i := 63) rfl)) (hw _ (List.mem_of_getElem? (i := 62) rfl)) (hw _ (List.mem_of_getElem? (i := 24) rfl)) (hw _ (List.mem_of_getElem? (i := 64) rfl)) (by decide) (fun s' hZ' => notFace_of_selects (args := #[]) (mvT hZ' (hw _ (List.mem_of_getElem? (i := 63) rfl)))) F89 (own_10_18 l Z a0 hw n0 h87 sz105 n86_b2 n68_b5 n68_n18_b2 (nar .byte (((i1 &&& (255 : Int32)).toUInt32.toUInt16.toUInt32.toInt32).toInt8.toInt32)) cs F100 F101 F102 F103 F104 F89 F90 F91 F92 F93 F94 (Ne.symm ne96) (Ne.symm ne97) ne79 ge98 ge80 ge82 hcs) (w := 0) (by decide) (by decide) pd_8 rfl (rest := []) rfl rfl (Nat.le_of_eq rfl) (by decide) (by decide) at_154 ?_
    rintro _ _ ⟨rfl, rfl⟩
    show Wk _ p l e _ s m _ below meth c n0 _ h87 5 29 (mkF m 157 #[.val (.int i0), .val (.int i1), .val (.int i2), .val (.int i3), .val (.int ((i1 &&& (255 : Int32)).toUInt32.toUInt16.toUInt32.toInt32)), .val (.int ((i2 &&& (255 : Int32)).toUInt32.toUInt16.toUInt32.toInt32)), .val (.int ((i3 &&& (255 : Int32)).toUInt32.toUInt16.toUInt32.toInt32)), .val (.int (1 : Int32)), .val (.ref n68_b5), .val (.ref n86_b2), .val (.ref n68_b5)] [(.long (0 : Int64))])
    refine Wk.st (g' := (mkF m 158 #[.val (.int i0), .val (.int i1), .val (.int i2), .val (.int i3), .val (.int ((i1 &&& (255 : Int32)).toUInt32.toUInt16.toUInt32.toInt32)), .val (.int ((i2 &&& (255 : Int32)).toUInt32.toUInt16.toUInt32.toInt32)), .val (.int ((i3 &&& (255 : Int32)).toUInt32.toUInt16.toUInt32.toInt32)), .val (.int (1 : Int32)), .val (.ref n68_b5), .val (.ref n86_b2), .val (.ref n68_b5)] [(.long (0 : Int64)), (.long (0 : Int64))])) (fun X t q => XS.lconst X.here C.hx rfl (hb C.hby at_157) q) ?_
    refine Wk.st (g' := (mkF m 159 #[.val (.int i0), .val (.int i1), .val (.int i2), .val (.int i3), .val (.int ((i1 &&& (255 : Int32)).toUInt32.toUInt16.toUInt32.toInt32)), .val (.int ((i2 &&& (255 : Int32)).toUInt32.toUInt16.toUInt32.toInt32)), .val (.int ((i3 &&& (255 : Int32)).toUInt32.toUInt16.toUInt32.toInt32)), .val (.int (1 : Int32)), .val (.ref n68_b5), .val (.ref n86_b2), .val (.ref n68_b5)] [(.int (XT.cmpL (0 : Int64) (0 : Int64)))])) (fun X t q => XT.lcmp X.here C.hx rfl (hb C.hby at_158) rfl q) ?_
    refine Wk.st (g' := (mkF m 162 #[.val (.int i0), .val (.int i1), .val (.int i2), .val (.int i3), .val (.int ((i1 &&& (255 : Int32)).toUInt32.toUInt16.toUInt32.toInt32)), .val (.int ((i2 &&& (255 : Int32)).toUInt32.toUInt16.toUInt32.toInt32)), .val (.int ((i3 &&& (255 : Int32)).toUInt32.toUInt16.toUInt32.toInt32)), .val (.int (1 : Int32)), .val (.ref n68_b5), .val (.ref n86_b2), .val (.ref n68_b5)] [])) (fun X t q => XS.ifNo X.here C.hx rfl (hb C.hby at_159) rfl (XT.ll_ne_f (by decide)) q) ?_
    refine Wk.st (g' := (mkF m 164 #[.val (.int i0), .val (.int i1), .val (.int i2), .val (.int i3), .val (.int ((i1 &&& (255 : Int32)).toUInt32.toUInt16.toUInt32.toInt32)), .val (.int ((i2 &&& (255 : Int32)).toUInt32.toUInt16.toUInt32.toInt32)), .val (.int ((i3 &&& (255 : Int32)).toUInt32.toUInt16.toUInt32.toInt32)), .val (.int (1 : Int32)), .val (.ref n68_b5), .val (.ref n86_b2), .val (.ref n68_b5)] [(.ref n86_b2)])) (fun X t q => XS.aload X.here C.hx rfl (hb C.hby at_162) rfl rfl q) ?_
    refine Wk.callV C (x := (⟨"com/example/escrow/escrow/LockRecord", "owner", "()Ljava/lang/String;"⟩ : MethodName)) (z := (⟨"com/example/escrow/escrow/LockRecord", "owner", "()Ljava/lang/String;"⟩ : MethodName)) (K := "com/example/escrow/escrow/LockRecord") (hw _ (List.mem_of_getElem? (i := 65) rfl)) (hw _ (List.mem_of_getElem? (i := 66) rfl)) (hw _ (List.mem_of_getElem? (i := 68) rfl)) (hw _ (List.mem_of_getElem? (i := 67) rfl)) (hw _ (List.mem_of_getElem? (i := 24) rfl)) (hw _ (List.mem_of_getElem? (i := 69) rfl)) (by decide) (fun s' hZ' => notFace_of_selects (args := #[]) (mvT hZ' (hw _ (List.mem_of_getElem? (i := 68) rfl)))) F89 (own_11_19 l Z a0 hw n0 h87 sz105 n86_b2 n68_b5 n68_n18_b2 (nar .byte (((i1 &&& (255 : Int32)).toUInt32.toUInt16.toUInt32.toInt32).toInt8.toInt32)) cs F100 F101 F102 F103 F104 F89 F90 F91 F92 F93 F94 (Ne.symm ne96) (Ne.symm ne97) ne79 ge98 ge80 ge82 hcs) (w := 0) (by decide) (by decide) pd_6 rfl (rest := []) rfl rfl (Nat.le_of_eq rfl) (by decide) (by decide) at_164 ?_
    rintro _ _ ⟨rfl, rfl⟩
    show Wk _ p l e _ s m _ below meth c n0 _ h87 5 29 (mkF m 167 #[.val (.int i0), .val (.int i1), .val (.int i2), .val (.int i3), .val (.int ((i1 &&& (255 : Int32)).toUInt32.toUInt16.toUInt32.toInt32)), .val (.int ((i2 &&& (255 : Int32)).toUInt32.toUInt16.toUInt32.toInt32)), .val (.int ((i3 &&& (255 : Int32)).toUInt32.toUInt16.toUInt32.toInt32)), .val (.int (1 : Int32)), .val (.ref n68_b5), .val (.ref n86_b2), .val (.ref n68_b5)] [.null])
    refine Wk.st (g' := (mkF m 170 #[.val (.int i0), .val (.int i1), .val (.int i2), .val (.int i3), .val (.int ((i1 &&& (255 : Int32)).toUInt32.toUInt16.toUInt32.toInt32)), .val (.int ((i2 &&& (255 : Int32)).toUInt32.toUInt16.toUInt32.toInt32)), .val (.int ((i3 &&& (255 : Int32)).toUInt32.toUInt16.toUInt32.toInt32)), .val (.int (1 : Int32)), .val (.ref n68_b5), .val (.ref n86_b2), .val (.ref n68_b5)] [])) (fun X t q => XS.ifnonnullNo X.here C.hx rfl (hb C.hby at_167) rfl q) ?_
    refine Wk.st (g' := (mkF m 172 #[.val (.int i0), .val (.int i1), .val (.int i2), .val (.int i3), .val (.int ((i1 &&& (255 : Int32)).toUInt32.toUInt16.toUInt32.toInt32)), .val (.int ((i2 &&& (255 : Int32)).toUInt32.toUInt16.toUInt32.toInt32)), .val (.int ((i3 &&& (255 : Int32)).toUInt32.toUInt16.toUInt32.toInt32)), .val (.int (1 : Int32)), .val (.ref n68_b5), .val (.ref n86_b2), .val (.ref n68_b5)] [(.ref n86_b2)])) (fun X t q => XS.aload X.here C.hx rfl (hb C.hby at_170) rfl rfl q) ?_
    refine Wk.callV C (x := (⟨"com/example/escrow/escrow/LockRecord", "claim", "()Lcom/example/escrow/escrow/Claim;"⟩ : MethodName)) (z := (⟨"com/example/escrow/escrow/LockRecord", "claim", "()Lcom/example/escrow/escrow/Claim;"⟩ : MethodName)) (K := "com/example/escrow/escrow/LockRecord") (hw _ (List.mem_of_getElem? (i := 70) rfl)) (hw _ (List.mem_of_getElem? (i := 71) rfl)) (hw _ (List.mem_of_getElem? (i := 73) rfl)) (hw _ (List.mem_of_getElem? (i := 72) rfl)) (hw _ (List.mem_of_getElem? (i := 24) rfl)) (hw _ (List.mem_of_getElem? (i := 74) rfl)) (by decide) (fun s' hZ' => notFace_of_selects (args := #[]) (mvT hZ' (hw _ (List.mem_of_getElem? (i := 73) rfl)))) F89 (own_12_20 l Z a0 hw n0 h87 sz105 n86_b2 n68_b5 n68_n18_b2 (nar .byte (((i1 &&& (255 : Int32)).toUInt32.toUInt16.toUInt32.toInt32).toInt8.toInt32)) cs F100 F101 F102 F103 F104 F89 F90 F91 F92 F93 F94 (Ne.symm ne96) (Ne.symm ne97) ne79 ge98 ge80 ge82 hcs) (w := 0) (by decide) (by decide) pd_9 rfl (rest := []) rfl rfl (Nat.le_of_eq rfl) (by decide) (by decide) at_172 ?_
    rintro _ _ ⟨rfl, rfl⟩
    show Wk _ p l e _ s m _ below meth c n0 _ h87 5 29 (mkF m 175 #[.val (.int i0), .val (.int i1), .val (.int i2), .val (.int i3), .val (.int ((i1 &&& (255 : Int32)).toUInt32.toUInt16.toUInt32.toInt32)), .val (.int ((i2 &&& (255 : Int32)).toUInt32.toUInt16.toUInt32.toInt32)), .val (.int ((i3 &&& (255 : Int32)).toUInt32.toUInt16.toUInt32.toInt32)), .val (.int (1 : Int32)), .val (.ref n68_b5), .val (.ref n86_b2), .val (.ref n68_b5)] [.null])
    refine Wk.st (g' := (mkF m 178 #[.val (.int i0), .val (.int i1), .val (.int i2), .val (.int i3), .val (.int ((i1 &&& (255 : Int32)).toUInt32.toUInt16.toUInt32.toInt32)), .val (.int ((i2 &&& (255 : Int32)).toUInt32.toUInt16.toUInt32.toInt32)), .val (.int ((i3 &&& (255 : Int32)).toUInt32.toUInt16.toUInt32.toInt32)), .val (.int (1 : Int32)), .val (.ref n68_b5), .val (.ref n86_b2), .val (.ref n68_b5)] [])) (fun X t q => XS.ifnonnullNo X.here C.hx rfl (hb C.hby at_175) rfl q) ?_
    refine Wk.st (g' := (mkF m 179 #[.val (.int i0), .val (.int i1), .val (.int i2), .val (.int i3), .val (.int ((i1 &&& (255 : Int32)).toUInt32.toUInt16.toUInt32.toInt32)), .val (.int ((i2 &&& (255 : Int32)).toUInt32.toUInt16.toUInt32.toInt32)), .val (.int ((i3 &&& (255 : Int32)).toUInt32.toUInt16.toUInt32.toInt32)), .val (.int (1 : Int32)), .val (.ref n68_b5), .val (.ref n86_b2), .val (.ref n68_b5)] [(.int (1 : Int32))])) (fun X t q => XS.iconst X.here C.hx rfl (hb C.hby at_178) q) ?_
    refine Wk.st (g' := (mkF m 183 #[.val (.int i0), .val (.int i1), .val (.int i2), .val (.int i3), .val (.int ((i1 &&& (255 : Int32)).toUInt32.toUInt16.toUInt32.toInt32)), .val (.int ((i2 &&& (255 : Int32)).toUInt32.toUInt16.toUInt32.toInt32)), .val (.int ((i3 &&& (255 : Int32)).toUInt32.toUInt16.toUInt32.toInt32)), .val (.int (1 : Int32)), .val (.ref n68_b5), .val (.ref n86_b2), .val (.ref n68_b5)] [(.int (1 : Int32))])) (fun X t q => XS.goto X.here C.hx rfl (pc0 := 179) (pc' := 183) rfl (hb C.hby at_179) (by decide) (by decide) q) ?_
    exact Wk.retV C (t := .boolean) rfl rfl (Or.inl ⟨rfl, by simp, _, rfl⟩) at_183 (by decide) (by decide) rfl
  · skip
    show Wl _ p l e _ s m _ below meth c n0 _ (some ("", 0, 0)) h0 0 0 (mkF m 29 #[.val (.int i0), .val (.int i1), .val (.int i2), .val (.int i3), .val (.int ((i1 &&& (255 : Int32)).toUInt32.toUInt16.toUInt32.toInt32)), .val (.int ((i2 &&& (255 : Int32)).toUInt32.toUInt16.toUInt32.toInt32)), .val (.int ((i3 &&& (255 : Int32)).toUInt32.toUInt16.toUInt32.toInt32)), .val (.int (2 : Int32)), .unset, .unset, .unset] [])
    refine Wl.ofWk ?_
    show Wk _ p l e _ s m _ below meth c n0 _ h0 0 0 (mkF m 29 #[.val (.int i0), .val (.int i1), .val (.int i2), .val (.int i3), .val (.int ((i1 &&& (255 : Int32)).toUInt32.toUInt16.toUInt32.toInt32)), .val (.int ((i2 &&& (255 : Int32)).toUInt32.toUInt16.toUInt32.toInt32)), .val (.int ((i3 &&& (255 : Int32)).toUInt32.toUInt16.toUInt32.toInt32)), .val (.int (2 : Int32)), .unset, .unset, .unset] [])
    refine Wk.st (g' := (mkF m 31 #[.val (.int i0), .val (.int i1), .val (.int i2), .val (.int i3), .val (.int ((i1 &&& (255 : Int32)).toUInt32.toUInt16.toUInt32.toInt32)), .val (.int ((i2 &&& (255 : Int32)).toUInt32.toUInt16.toUInt32.toInt32)), .val (.int ((i3 &&& (255 : Int32)).toUInt32.toUInt16.toUInt32.toInt32)), .val (.int (2 : Int32)), .unset, .unset, .unset] [(.int (2 : Int32))])) (fun X t q => XS.iload X.here C.hx rfl (hb C.hby at_29) rfl q) ?_
    refine Wk.st (g' := (mkF m 49 #[.val (.int i0), .val (.int i1), .val (.int i2), .val (.int i3), .val (.int ((i1 &&& (255 : Int32)).toUInt32.toUInt16.toUInt32.toInt32)), .val (.int ((i2 &&& (255 : Int32)).toUInt32.toUInt16.toUInt32.toInt32)), .val (.int ((i3 &&& (255 : Int32)).toUInt32.toUInt16.toUInt32.toInt32)), .val (.int (2 : Int32)), .unset, .unset, .unset] [])) (fun X t q => XS.ifYes X.here C.hx rfl (pc0 := 31) (pc' := 49) rfl (hb C.hby at_31) rfl (XT.i0_ne_t (by decide)) (by decide) (by decide) q) ?_
    refine Wk.st (g' := (mkF m 51 #[.val (.int i0), .val (.int i1), .val (.int i2), .val (.int i3), .val (.int ((i1 &&& (255 : Int32)).toUInt32.toUInt16.toUInt32.toInt32)), .val (.int ((i2 &&& (255 : Int32)).toUInt32.toUInt16.toUInt32.toInt32)), .val (.int ((i3 &&& (255 : Int32)).toUInt32.toUInt16.toUInt32.toInt32)), .val (.int (2 : Int32)), .unset, .unset, .unset] [(.int (2 : Int32))])) (fun X t q => XS.iload X.here C.hx rfl (hb C.hby at_49) rfl q) ?_
    refine Wk.st (g' := (mkF m 52 #[.val (.int i0), .val (.int i1), .val (.int i2), .val (.int i3), .val (.int ((i1 &&& (255 : Int32)).toUInt32.toUInt16.toUInt32.toInt32)), .val (.int ((i2 &&& (255 : Int32)).toUInt32.toUInt16.toUInt32.toInt32)), .val (.int ((i3 &&& (255 : Int32)).toUInt32.toUInt16.toUInt32.toInt32)), .val (.int (2 : Int32)), .unset, .unset, .unset] [(.int (1 : Int32)), (.int (2 : Int32))])) (fun X t q => XS.iconst X.here C.hx rfl (hb C.hby at_51) q) ?_
    refine Wk.st (g' := (mkF m 65 #[.val (.int i0), .val (.int i1), .val (.int i2), .val (.int i3), .val (.int ((i1 &&& (255 : Int32)).toUInt32.toUInt16.toUInt32.toInt32)), .val (.int ((i2 &&& (255 : Int32)).toUInt32.toUInt16.toUInt32.toInt32)), .val (.int ((i3 &&& (255 : Int32)).toUInt32.toUInt16.toUInt32.toInt32)), .val (.int (2 : Int32)), .unset, .unset, .unset] [])) (fun X t q => XS.icmpYes X.here C.hx rfl (pc0 := 52) (pc' := 65) rfl (hb C.hby at_52) rfl (XT.ii_ne_t (by decide)) (by decide) (by decide) q) ?_
    refine Wk.st (g' := (mkF m 67 #[.val (.int i0), .val (.int i1), .val (.int i2), .val (.int i3), .val (.int ((i1 &&& (255 : Int32)).toUInt32.toUInt16.toUInt32.toInt32)), .val (.int ((i2 &&& (255 : Int32)).toUInt32.toUInt16.toUInt32.toInt32)), .val (.int ((i3 &&& (255 : Int32)).toUInt32.toUInt16.toUInt32.toInt32)), .val (.int (2 : Int32)), .unset, .unset, .unset] [(.int (2 : Int32))])) (fun X t q => XS.iload X.here C.hx rfl (hb C.hby at_65) rfl q) ?_
    refine Wk.st (g' := (mkF m 68 #[.val (.int i0), .val (.int i1), .val (.int i2), .val (.int i3), .val (.int ((i1 &&& (255 : Int32)).toUInt32.toUInt16.toUInt32.toInt32)), .val (.int ((i2 &&& (255 : Int32)).toUInt32.toUInt16.toUInt32.toInt32)), .val (.int ((i3 &&& (255 : Int32)).toUInt32.toUInt16.toUInt32.toInt32)), .val (.int (2 : Int32)), .unset, .unset, .unset] [(.int (2 : Int32)), (.int (2 : Int32))])) (fun X t q => XS.iconst X.here C.hx rfl (hb C.hby at_67) q) ?_
    refine Wk.st (g' := (mkF m 71 #[.val (.int i0), .val (.int i1), .val (.int i2), .val (.int i3), .val (.int ((i1 &&& (255 : Int32)).toUInt32.toUInt16.toUInt32.toInt32)), .val (.int ((i2 &&& (255 : Int32)).toUInt32.toUInt16.toUInt32.toInt32)), .val (.int ((i3 &&& (255 : Int32)).toUInt32.toUInt16.toUInt32.toInt32)), .val (.int (2 : Int32)), .unset, .unset, .unset] [])) (fun X t q => XS.icmpNo X.here C.hx rfl (hb C.hby at_68) rfl (XT.ii_ne_f (by decide)) q) ?_
    refine Wk.newO C (hw _ (List.mem_of_getElem? (i := 0) rfl)) (hw _ (List.mem_of_getElem? (i := 1) rfl)) (hw _ (List.mem_of_getElem? (i := 2) rfl)) at_71 (by decide) (by decide) ?_
    intro h122 b123 g124 E125 A126 D127
    have ge128 : n0 ≤ b123 := Nat.le_trans hsz (Nat.le_of_eq g124.symm)
    have gz129 : h0.size ≤ b123 := Nat.le_trans (Nat.le_refl h0.size) (Nat.le_of_eq g124.symm)
    have F130 : Sta Z h122 "java/lang/String" "COMPACT_STRINGS" "Z" (.int cs) := SC.ext E125
    have sz131 : n0 ≤ h122.size := Nat.le_trans hsz E125.1
    have sy132 : h0.size ≤ h122.size := Nat.le_trans (Nat.le_refl h0.size) E125.1
    have F133 : Fld Z h122 b123 "java/lang/String" "value" "[B" .null := D127 (Or.inr (hw _ (List.mem_of_getElem? (i := 16) rfl))) (ty := (.array .byte)) (by decide)
    have F134 : Fld Z h122 b123 "java/lang/String" "coder" "B" (.int (0 : Int32)) := D127 (Or.inr (hw _ (List.mem_of_getElem? (i := 17) rfl))) (ty := .byte) (by decide)
    show Wk _ p l e _ s m _ below meth c n0 _ h122 1 4 (mkF m 74 #[.val (.int i0), .val (.int i1), .val (.int i2), .val (.int i3), .val (.int ((i1 &&& (255 : Int32)).toUInt32.toUInt16.toUInt32.toInt32)), .val (.int ((i2 &&& (255 : Int32)).toUInt32.toUInt16.toUInt32.toInt32)), .val (.int ((i3 &&& (255 : Int32)).toUInt32.toUInt16.toUInt32.toInt32)), .val (.int (2 : Int32)), .unset, .unset, .unset] [(.ref b123)])
    refine Wk.st (g' := (mkF m 75 #[.val (.int i0), .val (.int i1), .val (.int i2), .val (.int i3), .val (.int ((i1 &&& (255 : Int32)).toUInt32.toUInt16.toUInt32.toInt32)), .val (.int ((i2 &&& (255 : Int32)).toUInt32.toUInt16.toUInt32.toInt32)), .val (.int ((i3 &&& (255 : Int32)).toUInt32.toUInt16.toUInt32.toInt32)), .val (.int (2 : Int32)), .unset, .unset, .unset] [(.ref b123), (.ref b123)])) (fun X t q => XS.dup X.here C.hx rfl (hb C.hby at_74) rfl rfl q) ?_
    refine Wk.st (g' := (mkF m 76 #[.val (.int i0), .val (.int i1), .val (.int i2), .val (.int i3), .val (.int ((i1 &&& (255 : Int32)).toUInt32.toUInt16.toUInt32.toInt32)), .val (.int ((i2 &&& (255 : Int32)).toUInt32.toUInt16.toUInt32.toInt32)), .val (.int ((i3 &&& (255 : Int32)).toUInt32.toUInt16.toUInt32.toInt32)), .val (.int (2 : Int32)), .unset, .unset, .unset] [(.int (2 : Int32)), (.ref b123), (.ref b123)])) (fun X t q => XS.iconst X.here C.hx rfl (hb C.hby at_75) q) ?_
    refine Wk.fNewP C (hw _ (List.mem_of_getElem? (i := 3) rfl)) (ty := .char) (dv := (.int (0 : Int32))) (N := 2) (ad := "[C") rfl rfl (by decide) (by decide) (by decide) (cap := 2) (by decide) (by decide) at_76 (by decide) (by decide) ?_
    intro h135 b136 g137 E138 A139 F140
    have ne141 : b123 ≠ b136 := Nat.ne_of_lt (Nat.lt_of_lt_of_le A126.lt (Nat.le_of_eq g137.symm))
    have ge142 : n0 ≤ b136 := Nat.le_trans sz131 (Nat.le_of_eq g137.symm)
    have gz143 : h0.size ≤ b136 := Nat.le_trans sy132 (Nat.le_of_eq g137.symm)
    have F144 : Sta Z h135 "java/lang/String" "COMPACT_STRINGS" "Z" (.int cs) := F130.ext E138
    have F145 : Exa Z h135 b123 "java/lang/String" := A126.ext E138
    have F146 : Fld Z h135 b123 "java/lang/String" "value" "[B" .null := F133.ext E138
    have F147 : Fld Z h135 b123 "java/lang/String" "coder" "B" (.int (0 : Int32)) := F134.ext E138
    have sz148 : n0 ≤ h135.size := Nat.le_trans sz131 E138.1
    have sy149 : h0.size ≤ h135.size := Nat.le_trans sy132 E138.1
    show Wk _ p l e _ s m _ below meth c n0 _ h135 2 6 (mkF m 78 #[.val (.int i0), .val (.int i1), .val (.int i2), .val (.int i3), .val (.int ((i1 &&& (255 : Int32)).toUInt32.toUInt16.toUInt32.toInt32)), .val (.int ((i2 &&& (255 : Int32)).toUInt32.toUInt16.toUInt32.toInt32)), .val (.int ((i3 &&& (255 : Int32)).toUInt32.toUInt16.toUInt32.toInt32)), .val (.int (2 : Int32)), .unset, .unset, .unset] [(.ref b136), (.ref b123), (.ref b123)])
    refine Wk.st (g' := (mkF m 79 #[.val (.int i0), .val (.int i1), .val (.int i2), .val (.int i3), .val (.int ((i1 &&& (255 : Int32)).toUInt32.toUInt16.toUInt32.toInt32)), .val (.int ((i2 &&& (255 : Int32)).toUInt32.toUInt16.toUInt32.toInt32)), .val (.int ((i3 &&& (255 : Int32)).toUInt32.toUInt16.toUInt32.toInt32)), .val (.int (2 : Int32)), .unset, .unset, .unset] [(.ref b136), (.ref b136), (.ref b123), (.ref b123)])) (fun X t q => XS.dup X.here C.hx rfl (hb C.hby at_78) rfl rfl q) ?_
    refine Wk.st (g' := (mkF m 80 #[.val (.int i0), .val (.int i1), .val (.int i2), .val (.int i3), .val (.int ((i1 &&& (255 : Int32)).toUInt32.toUInt16.toUInt32.toInt32)), .val (.int ((i2 &&& (255 : Int32)).toUInt32.toUInt16.toUInt32.toInt32)), .val (.int ((i3 &&& (255 : Int32)).toUInt32.toUInt16.toUInt32.toInt32)), .val (.int (2 : Int32)), .unset, .unset, .unset] [(.int (0 : Int32)), (.ref b136), (.ref b136), (.ref b123), (.ref b123)])) (fun X t q => XS.iconst X.here C.hx rfl (hb C.hby at_79) q) ?_
    refine Wk.st (g' := (mkF m 82 #[.val (.int i0), .val (.int i1), .val (.int i2), .val (.int i3), .val (.int ((i1 &&& (255 : Int32)).toUInt32.toUInt16.toUInt32.toInt32)), .val (.int ((i2 &&& (255 : Int32)).toUInt32.toUInt16.toUInt32.toInt32)), .val (.int ((i3 &&& (255 : Int32)).toUInt32.toUInt16.toUInt32.toInt32)), .val (.int (2 : Int32)), .unset, .unset, .unset] [(.int ((i1 &&& (255 : Int32)).toUInt32.toUInt16.toUInt32.toInt32)), (.int (0 : Int32)), (.ref b136), (.ref b136), (.ref b123), (.ref b123)])) (fun X t q => XS.iload X.here C.hx rfl (hb C.hby at_80) rfl q) ?_
    refine Wk.fStC C F140 (x' := (nar .char ((i1 &&& (255 : Int32)).toUInt32.toUInt16.toUInt32.toInt32))) rfl (i := 0) (by decide) (by decide) (by decide) ge142 at_82 ?_
    intro h150 W151 F152
    have F153 : Sta Z h150 "java/lang/String" "COMPACT_STRINGS" "Z" (.int cs) := F144.wr W151
    have F154 : Exa Z h150 b123 "java/lang/String" := F145.wr W151
    have F155 : Fld Z h150 b123 "java/lang/String" "value" "[B" .null := F146.other W151 (Or.inl ne141)
    have F156 : Fld Z h150 b123 "java/lang/String" "coder" "B" (.int (0 : Int32)) := F147.other W151 (Or.inl ne141)
    have F157 : Exa Z h150 b136 "[C" := A139.wr W151
    have sz158 : n0 ≤ h150.size := Nat.le_trans sz148 (Nat.le_of_eq W151.size.symm)
    have sy159 : h0.size ≤ h150.size := Nat.le_trans sy149 (Nat.le_of_eq W151.size.symm)
    show Wk _ p l e _ s m _ below meth c n0 _ h150 2 6 (mkF m 83 #[.val (.int i0), .val (.int i1), .val (.int i2), .val (.int i3), .val (.int ((i1 &&& (255 : Int32)).toUInt32.toUInt16.toUInt32.toInt32)), .val (.int ((i2 &&& (255 : Int32)).toUInt32.toUInt16.toUInt32.toInt32)), .val (.int ((i3 &&& (255 : Int32)).toUInt32.toUInt16.toUInt32.toInt32)), .val (.int (2 : Int32)), .unset, .unset, .unset] [(.ref b136), (.ref b123), (.ref b123)])
    refine Wk.st (g' := (mkF m 84 #[.val (.int i0), .val (.int i1), .val (.int i2), .val (.int i3), .val (.int ((i1 &&& (255 : Int32)).toUInt32.toUInt16.toUInt32.toInt32)), .val (.int ((i2 &&& (255 : Int32)).toUInt32.toUInt16.toUInt32.toInt32)), .val (.int ((i3 &&& (255 : Int32)).toUInt32.toUInt16.toUInt32.toInt32)), .val (.int (2 : Int32)), .unset, .unset, .unset] [(.ref b136), (.ref b136), (.ref b123), (.ref b123)])) (fun X t q => XS.dup X.here C.hx rfl (hb C.hby at_83) rfl rfl q) ?_
    refine Wk.st (g' := (mkF m 85 #[.val (.int i0), .val (.int i1), .val (.int i2), .val (.int i3), .val (.int ((i1 &&& (255 : Int32)).toUInt32.toUInt16.toUInt32.toInt32)), .val (.int ((i2 &&& (255 : Int32)).toUInt32.toUInt16.toUInt32.toInt32)), .val (.int ((i3 &&& (255 : Int32)).toUInt32.toUInt16.toUInt32.toInt32)), .val (.int (2 : Int32)), .unset, .unset, .unset] [(.int (1 : Int32)), (.ref b136), (.ref b136), (.ref b123), (.ref b123)])) (fun X t q => XS.iconst X.here C.hx rfl (hb C.hby at_84) q) ?_
    refine Wk.st (g' := (mkF m 87 #[.val (.int i0), .val (.int i1), .val (.int i2), .val (.int i3), .val (.int ((i1 &&& (255 : Int32)).toUInt32.toUInt16.toUInt32.toInt32)), .val (.int ((i2 &&& (255 : Int32)).toUInt32.toUInt16.toUInt32.toInt32)), .val (.int ((i3 &&& (255 : Int32)).toUInt32.toUInt16.toUInt32.toInt32)), .val (.int (2 : Int32)), .unset, .unset, .unset] [(.int ((i2 &&& (255 : Int32)).toUInt32.toUInt16.toUInt32.toInt32)), (.int (1 : Int32)), (.ref b136), (.ref b136), (.ref b123), (.ref b123)])) (fun X t q => XS.iload X.here C.hx rfl (hb C.hby at_85) rfl q) ?_
    refine Wk.fStC C F152 (x' := (nar .char ((i2 &&& (255 : Int32)).toUInt32.toUInt16.toUInt32.toInt32))) rfl (i := 1) (by decide) (by decide) (by decide) ge142 at_87 ?_
    intro h160 W161 F162
    have F163 : Sta Z h160 "java/lang/String" "COMPACT_STRINGS" "Z" (.int cs) := F153.wr W161
    have F164 : Exa Z h160 b123 "java/lang/String" := F154.wr W161
    have F165 : Fld Z h160 b123 "java/lang/String" "value" "[B" .null := F155.other W161 (Or.inl ne141)
    have F166 : Fld Z h160 b123 "java/lang/String" "coder" "B" (.int (0 : Int32)) := F156.other W161 (Or.inl ne141)
    have F167 : Exa Z h160 b136 "[C" := F157.wr W161
    have sz168 : n0 ≤ h160.size := Nat.le_trans sz158 (Nat.le_of_eq W161.size.symm)
    have sy169 : h0.size ≤ h160.size := Nat.le_trans sy159 (Nat.le_of_eq W161.size.symm)
    show Wk _ p l e _ s m _ below meth c n0 _ h160 2 6 (mkF m 88 #[.val (.int i0), .val (.int i1), .val (.int i2), .val (.int i3), .val (.int ((i1 &&& (255 : Int32)).toUInt32.toUInt16.toUInt32.toInt32)), .val (.int ((i2 &&& (255 : Int32)).toUInt32.toUInt16.toUInt32.toInt32)), .val (.int ((i3 &&& (255 : Int32)).toUInt32.toUInt16.toUInt32.toInt32)), .val (.int (2 : Int32)), .unset, .unset, .unset] [(.ref b136), (.ref b123), (.ref b123)])
    refine Wk.callI C (z := (⟨"java/lang/String", "<init>", "([C)V"⟩ : MethodName)) rfl (hw _ (List.mem_of_getElem? (i := 4) rfl)) (hw _ (List.mem_of_getElem? (i := 5) rfl)) (hw _ (List.mem_of_getElem? (i := 2) rfl)) (hw _ (List.mem_of_getElem? (i := 6) rfl)) (by decide) (own_1_21 l Z a0 hw n0 h160 sz168 b123 b136 cs (nar .char ((i1 &&& (255 : Int32)).toUInt32.toUInt16.toUInt32.toInt32)) (nar .char ((i2 &&& (255 : Int32)).toUInt32.toUInt16.toUInt32.toInt32)) F163 F164 F165 F166 F167 F162 ne141 ge128 ge142 (latn i1) (latn i2) hcs) (w := 1) (by decide) (by decide) pd_1 rfl (rest := [(.ref b123)]) rfl rfl (Nat.le_of_eq rfl) (by decide) (by decide) at_88 ?_
    rintro _ h171 ⟨n170_n1_n1_b2, rfl, K172, gn178, F173, F174, F175, F176, F177⟩
    show Wk _ p l e _ s m _ below meth c n0 _ h171 3 8 (mkF m 91 #[.val (.int i0), .val (.int i1), .val (.int i2), .val (.int i3), .val (.int ((i1 &&& (255 : Int32)).toUInt32.toUInt16.toUInt32.toInt32)), .val (.int ((i2 &&& (255 : Int32)).toUInt32.toUInt16.toUInt32.toInt32)), .val (.int ((i3 &&& (255 : Int32)).toUInt32.toUInt16.toUInt32.toInt32)), .val (.int (2 : Int32)), .unset, .unset, .unset] [(.ref b123)])
    have ne179 : b123 ≠ n170_n1_n1_b2 := Nat.ne_of_lt (Nat.lt_of_lt_of_le F164.lt gn178)
    have ne180 : b136 ≠ n170_n1_n1_b2 := Nat.ne_of_lt (Nat.lt_of_lt_of_le F167.lt gn178)
    have ge181 : n0 ≤ n170_n1_n1_b2 := Nat.le_trans sz168 gn178
    have gz182 : h0.size ≤ n170_n1_n1_b2 := Nat.le_trans sy169 gn178
    have F183 : Exa Z h171 b123 "java/lang/String" := F164.keep K172
    have F184 : Exa Z h171 b136 "[C" := F167.keep K172
    have F185 : Fa Z h171 b136 .char 2 (up (up (fun _ => (.int (0 : Int32))) 0 (.int (nar .char ((i1 &&& (255 : Int32)).toUInt32.toUInt16.toUInt32.toInt32)))) 1 (.int (nar .char ((i2 &&& (255 : Int32)).toUInt32.toUInt16.toUInt32.toInt32)))) := F162.keep K172 (nmS (Ne.symm ne141) nm0)
    have sz186 : n0 ≤ h171.size := Nat.le_trans sz168 K172.1
    have sy187 : h0.size ≤ h171.size := Nat.le_trans sy169 K172.1
    refine Wk.st (g' := (mkF m 93 #[.val (.int i0), .val (.int i1), .val (.int i2), .val (.int i3), .val (.int ((i1 &&& (255 : Int32)).toUInt32.toUInt16.toUInt32.toInt32)), .val (.int ((i2 &&& (255 : Int32)).toUInt32.toUInt16.toUInt32.toInt32)), .val (.int ((i3 &&& (255 : Int32)).toUInt32.toUInt16.toUInt32.toInt32)), .val (.int (2 : Int32)), .val (.ref b123), .unset, .unset] [])) (fun X t q => XS.astore X.here C.hx rfl (hb C.hby at_91) rfl rfl (l' := #[.val (.int i0), .val (.int i1), .val (.int i2), .val (.int i3), .val (.int ((i1 &&& (255 : Int32)).toUInt32.toUInt16.toUInt32.toInt32)), .val (.int ((i2 &&& (255 : Int32)).toUInt32.toUInt16.toUInt32.toInt32)), .val (.int ((i3 &&& (255 : Int32)).toUInt32.toUInt16.toUInt32.toInt32)), .val (.int (2 : Int32)), .val (.ref b123), .unset, .unset]) rfl q) ?_
    refine Wk.st (g' := (mkF m 123 #[.val (.int i0), .val (.int i1), .val (.int i2), .val (.int i3), .val (.int ((i1 &&& (255 : Int32)).toUInt32.toUInt16.toUInt32.toInt32)), .val (.int ((i2 &&& (255 : Int32)).toUInt32.toUInt16.toUInt32.toInt32)), .val (.int ((i3 &&& (255 : Int32)).toUInt32.toUInt16.toUInt32.toInt32)), .val (.int (2 : Int32)), .val (.ref b123), .unset, .unset] [])) (fun X t q => XS.goto X.here C.hx rfl (pc0 := 93) (pc' := 123) rfl (hb C.hby at_93) (by decide) (by decide) q) ?_
    refine Wk.st (g' := (mkF m 125 #[.val (.int i0), .val (.int i1), .val (.int i2), .val (.int i3), .val (.int ((i1 &&& (255 : Int32)).toUInt32.toUInt16.toUInt32.toInt32)), .val (.int ((i2 &&& (255 : Int32)).toUInt32.toUInt16.toUInt32.toInt32)), .val (.int ((i3 &&& (255 : Int32)).toUInt32.toUInt16.toUInt32.toInt32)), .val (.int (2 : Int32)), .val (.ref b123), .unset, .unset] [(.ref b123)])) (fun X t q => XS.aload X.here C.hx rfl (hb C.hby at_123) rfl rfl q) ?_
    refine Wk.callS C (z := (⟨"com/example/escrow/escrow/LockRecord", "untaken", "(Ljava/lang/String;)Lcom/example/escrow/escrow/LockRecord;"⟩ : MethodName)) (hw _ (List.mem_of_getElem? (i := 22) rfl)) (hw _ (List.mem_of_getElem? (i := 23) rfl)) (hw _ (List.mem_of_getElem? (i := 24) rfl)) (hw _ (List.mem_of_getElem? (i := 25) rfl)) (by decide) (own_4_26 l Z a0 hw n0 h171 sz186 b123 n170_n1_n1_b2 cs (nar .byte ((nar .char ((i1 &&& (255 : Int32)).toUInt32.toUInt16.toUInt32.toInt32)).toInt8.toInt32)) (nar .byte ((nar .char ((i2 &&& (255 : Int32)).toUInt32.toUInt16.toUInt32.toInt32)).toInt8.toInt32)) F183 F173 F174 F175 F176 F177 ne179 ge128 ge181 hcs) (w := 0) (by decide) (by decide) pd_2 rfl (rest := []) rfl rfl (Nat.le_of_eq rfl) (by decide) (by decide) at_125 ?_
    rintro _ h189 ⟨n188_b2, rfl, K190, gn197, F191, F192, F193, F194, F195, F196⟩
    show Wk _ p l e _ s m _ below meth c n0 _ h189 6 32 (mkF m 128 #[.val (.int i0), .val (.int i1), .val (.int i2), .val (.int i3), .val (.int ((i1 &&& (255 : Int32)).toUInt32.toUInt16.toUInt32.toInt32)), .val (.int ((i2 &&& (255 : Int32)).toUInt32.toUInt16.toUInt32.toInt32)), .val (.int ((i3 &&& (255 : Int32)).toUInt32.toUInt16.toUInt32.toInt32)), .val (.int (2 : Int32)), .val (.ref b123), .unset, .unset] [(.ref n188_b2)])
    have ne198 : b123 ≠ n188_b2 := Nat.ne_of_lt (Nat.lt_of_lt_of_le F183.lt gn197)
    have ne199 : b136 ≠ n188_b2 := Nat.ne_of_lt (Nat.lt_of_lt_of_le F184.lt gn197)
    have ne200 : n170_n1_n1_b2 ≠ n188_b2 := Nat.ne_of_lt (Nat.lt_of_lt_of_le F173.lt gn197)
    have ge201 : n0 ≤ n188_b2 := Nat.le_trans sz186 gn197
    have gz202 : h0.size ≤ n188_b2 := Nat.le_trans sy187 gn197
    have F203 : Exa Z h189 b123 "java/lang/String" := F183.keep K190
    have F204 : Exa Z h189 b136 "[C" := F184.keep K190
    have F205 : Fa Z h189 b136 .char 2 (up (up (fun _ => (.int (0 : Int32))) 0 (.int (nar .char ((i1 &&& (255 : Int32)).toUInt32.toUInt16.toUInt32.toInt32)))) 1 (.int (nar .char ((i2 &&& (255 : Int32)).toUInt32.toUInt16.toUInt32.toInt32)))) := F185.keep K190 nm0
    have F206 : Exa Z h189 n170_n1_n1_b2 "[B" := F173.keep K190
    have F207 : Fa Z h189 n170_n1_n1_b2 .byte 2 (up (up (fun _ => (.int (0 : Int32))) 0 (.int (nar .byte ((nar .char ((i1 &&& (255 : Int32)).toUInt32.toUInt16.toUInt32.toInt32)).toInt8.toInt32)))) 1 (.int (nar .byte ((nar .char ((i2 &&& (255 : Int32)).toUInt32.toUInt16.toUInt32.toInt32)).toInt8.toInt32)))) := F175.keep K190 nm0
    have F208 : Fld Z h189 b123 "java/lang/String" "coder" "B" (.int (0 : Int32)) := F176.keep K190 nm0
    have F209 : Fld Z h189 b123 "java/lang/String" "value" "[B" (.ref n170_n1_n1_b2) := F177.keep K190 nm0
    have sz210 : n0 ≤ h189.size := Nat.le_trans sz186 K190.1
    have sy211 : h0.size ≤ h189.size := Nat.le_trans sy187 K190.1
    refine Wk.st (g' := (mkF m 130 #[.val (.int i0), .val (.int i1), .val (.int i2), .val (.int i3), .val (.int ((i1 &&& (255 : Int32)).toUInt32.toUInt16.toUInt32.toInt32)), .val (.int ((i2 &&& (255 : Int32)).toUInt32.toUInt16.toUInt32.toInt32)), .val (.int ((i3 &&& (255 : Int32)).toUInt32.toUInt16.toUInt32.toInt32)), .val (.int (2 : Int32)), .val (.ref b123), .val (.ref n188_b2), .unset] [])) (fun X t q => XS.astore X.here C.hx rfl (hb C.hby at_128) rfl rfl (l' := #[.val (.int i0), .val (.int i1), .val (.int i2), .val (.int i3), .val (.int ((i1 &&& (255 : Int32)).toUInt32.toUInt16.toUInt32.toInt32)), .val (.int ((i2 &&& (255 : Int32)).toUInt32.toUInt16.toUInt32.toInt32)), .val (.int ((i3 &&& (255 : Int32)).toUInt32.toUInt16.toUInt32.toInt32)), .val (.int (2 : Int32)), .val (.ref b123), .val (.ref n188_b2), .unset]) rfl q) ?_
    refine Wk.st (g' := (mkF m 132 #[.val (.int i0), .val (.int i1), .val (.int i2), .val (.int i3), .val (.int ((i1 &&& (255 : Int32)).toUInt32.toUInt16.toUInt32.toInt32)), .val (.int ((i2 &&& (255 : Int32)).toUInt32.toUInt16.toUInt32.toInt32)), .val (.int ((i3 &&& (255 : Int32)).toUInt32.toUInt16.toUInt32.toInt32)), .val (.int (2 : Int32)), .val (.ref b123), .val (.ref n188_b2), .unset] [(.ref n188_b2)])) (fun X t q => XS.aload X.here C.hx rfl (hb C.hby at_130) rfl rfl q) ?_
    refine Wk.callV C (x := (⟨"com/example/escrow/escrow/LockRecord", "name", "()Ljava/lang/String;"⟩ : MethodName)) (z := (⟨"com/example/escrow/escrow/LockRecord", "name", "()Ljava/lang/String;"⟩ : MethodName)) (K := "com/example/escrow/escrow/LockRecord") (hw _ (List.mem_of_getElem? (i := 50) rfl)) (hw _ (List.mem_of_getElem? (i := 51) rfl)) (hw _ (List.mem_of_getElem? (i := 53) rfl)) (hw _ (List.mem_of_getElem? (i := 52) rfl)) (hw _ (List.mem_of_getElem? (i := 24) rfl)) (hw _ (List.mem_of_getElem? (i := 54) rfl)) (by decide) (fun s' hZ' => notFace_of_selects (args := #[]) (mvT hZ' (hw _ (List.mem_of_getElem? (i := 53) rfl)))) F191 (own_8_29 l Z a0 hw n0 h189 sz210 n188_b2 b123 n170_n1_n1_b2 (nar .byte ((nar .char ((i1 &&& (255 : Int32)).toUInt32.toUInt16.toUInt32.toInt32)).toInt8.toInt32)) (nar .byte ((nar .char ((i2 &&& (255 : Int32)).toUInt32.toUInt16.toUInt32.toInt32)).toInt8.toInt32)) cs F203 F206 F207 F208 F209 F191 F192 F193 F194 F195 F196 (Ne.symm ne198) (Ne.symm ne200) ne179 ge201 ge128 ge181 hcs) (w := 0) (by decide) (by decide) pd_6 rfl (rest := []) rfl rfl (Nat.le_of_eq rfl) (by decide) (by decide) at_132 ?_
    rintro _ _ ⟨rfl, rfl⟩
    show Wk _ p l e _ s m _ below meth c n0 _ h189 6 32 (mkF m 135 #[.val (.int i0), .val (.int i1), .val (.int i2), .val (.int i3), .val (.int ((i1 &&& (255 : Int32)).toUInt32.toUInt16.toUInt32.toInt32)), .val (.int ((i2 &&& (255 : Int32)).toUInt32.toUInt16.toUInt32.toInt32)), .val (.int ((i3 &&& (255 : Int32)).toUInt32.toUInt16.toUInt32.toInt32)), .val (.int (2 : Int32)), .val (.ref b123), .val (.ref n188_b2), .unset] [(.ref b123)])
    refine Wk.st (g' := (mkF m 137 #[.val (.int i0), .val (.int i1), .val (.int i2), .val (.int i3), .val (.int ((i1 &&& (255 : Int32)).toUInt32.toUInt16.toUInt32.toInt32)), .val (.int ((i2 &&& (255 : Int32)).toUInt32.toUInt16.toUInt32.toInt32)), .val (.int ((i3 &&& (255 : Int32)).toUInt32.toUInt16.toUInt32.toInt32)), .val (.int (2 : Int32)), .val (.ref b123), .val (.ref n188_b2), .val (.ref b123)] [])) (fun X t q => XS.astore X.here C.hx rfl (hb C.hby at_135) rfl rfl (l' := #[.val (.int i0), .val (.int i1), .val (.int i2), .val (.int i3), .val (.int ((i1 &&& (255 : Int32)).toUInt32.toUInt16.toUInt32.toInt32)), .val (.int ((i2 &&& (255 : Int32)).toUInt32.toUInt16.toUInt32.toInt32)), .val (.int ((i3 &&& (255 : Int32)).toUInt32.toUInt16.toUInt32.toInt32)), .val (.int (2 : Int32)), .val (.ref b123), .val (.ref n188_b2), .val (.ref b123)]) rfl q) ?_
    refine Wk.st (g' := (mkF m 139 #[.val (.int i0), .val (.int i1), .val (.int i2), .val (.int i3), .val (.int ((i1 &&& (255 : Int32)).toUInt32.toUInt16.toUInt32.toInt32)), .val (.int ((i2 &&& (255 : Int32)).toUInt32.toUInt16.toUInt32.toInt32)), .val (.int ((i3 &&& (255 : Int32)).toUInt32.toUInt16.toUInt32.toInt32)), .val (.int (2 : Int32)), .val (.ref b123), .val (.ref n188_b2), .val (.ref b123)] [(.ref b123)])) (fun X t q => XS.aload X.here C.hx rfl (hb C.hby at_137) rfl rfl q) ?_
    refine Wk.st (g' := (mkF m 142 #[.val (.int i0), .val (.int i1), .val (.int i2), .val (.int i3), .val (.int ((i1 &&& (255 : Int32)).toUInt32.toUInt16.toUInt32.toInt32)), .val (.int ((i2 &&& (255 : Int32)).toUInt32.toUInt16.toUInt32.toInt32)), .val (.int ((i3 &&& (255 : Int32)).toUInt32.toUInt16.toUInt32.toInt32)), .val (.int (2 : Int32)), .val (.ref b123), .val (.ref n188_b2), .val (.ref b123)] [])) (fun X t q => XS.ifnullNo X.here C.hx rfl (hb C.hby at_139) rfl q) ?_
    refine Wk.st (g' := (mkF m 144 #[.val (.int i0), .val (.int i1), .val (.int i2), .val (.int i3), .val (.int ((i1 &&& (255 : Int32)).toUInt32.toUInt16.toUInt32.toInt32)), .val (.int ((i2 &&& (255 : Int32)).toUInt32.toUInt16.toUInt32.toInt32)), .val (.int ((i3 &&& (255 : Int32)).toUInt32.toUInt16.toUInt32.toInt32)), .val (.int (2 : Int32)), .val (.ref b123), .val (.ref n188_b2), .val (.ref b123)] [(.ref b123)])) (fun X t q => XS.aload X.here C.hx rfl (hb C.hby at_142) rfl rfl q) ?_
    refine Wk.st (g' := (mkF m 146 #[.val (.int i0), .val (.int i1), .val (.int i2), .val (.int i3), .val (.int ((i1 &&& (255 : Int32)).toUInt32.toUInt16.toUInt32.toInt32)), .val (.int ((i2 &&& (255 : Int32)).toUInt32.toUInt16.toUInt32.toInt32)), .val (.int ((i3 &&& (255 : Int32)).toUInt32.toUInt16.toUInt32.toInt32)), .val (.int (2 : Int32)), .val (.ref b123), .val (.ref n188_b2), .val (.ref b123)] [(.ref b123), (.ref b123)])) (fun X t q => XS.aload X.here C.hx rfl (hb C.hby at_144) rfl rfl q) ?_
    refine Wk.callV C (x := (⟨"java/lang/String", "equals", "(Ljava/lang/Object;)Z"⟩ : MethodName)) (z := (⟨"java/lang/String", "equals", "(Ljava/lang/Object;)Z"⟩ : MethodName)) (K := "java/lang/String") (hw _ (List.mem_of_getElem? (i := 55) rfl)) (hw _ (List.mem_of_getElem? (i := 56) rfl)) (hw _ (List.mem_of_getElem? (i := 58) rfl)) (hw _ (List.mem_of_getElem? (i := 57) rfl)) (hw _ (List.mem_of_getElem? (i := 2) rfl)) (hw _ (List.mem_of_getElem? (i := 59) rfl)) (by decide) (fun s' hZ' => notFace_of_selects (args := #[]) (mvT hZ' (hw _ (List.mem_of_getElem? (i := 58) rfl)))) F203 (own_9_30 l Z a0 hw n0 h189 sz210 b123 n170_n1_n1_b2 (nar .byte ((nar .char ((i1 &&& (255 : Int32)).toUInt32.toUInt16.toUInt32.toInt32)).toInt8.toInt32)) (nar .byte ((nar .char ((i2 &&& (255 : Int32)).toUInt32.toUInt16.toUInt32.toInt32)).toInt8.toInt32)) cs F203 F206 F207 F208 F209 F192 ne179 ge128 ge181 hcs) (w := 0) (by decide) (by decide) pd_7 rfl (rest := []) rfl rfl (Nat.le_of_eq rfl) (by decide) (by decide) at_146 ?_
    rintro _ _ ⟨rfl, rfl⟩
    show Wk _ p l e _ s m _ below meth c n0 _ h189 6 32 (mkF m 149 #[.val (.int i0), .val (.int i1), .val (.int i2), .val (.int i3), .val (.int ((i1 &&& (255 : Int32)).toUInt32.toUInt16.toUInt32.toInt32)), .val (.int ((i2 &&& (255 : Int32)).toUInt32.toUInt16.toUInt32.toInt32)), .val (.int ((i3 &&& (255 : Int32)).toUInt32.toUInt16.toUInt32.toInt32)), .val (.int (2 : Int32)), .val (.ref b123), .val (.ref n188_b2), .val (.ref b123)] [(.int (1 : Int32))])
    refine Wk.st (g' := (mkF m 152 #[.val (.int i0), .val (.int i1), .val (.int i2), .val (.int i3), .val (.int ((i1 &&& (255 : Int32)).toUInt32.toUInt16.toUInt32.toInt32)), .val (.int ((i2 &&& (255 : Int32)).toUInt32.toUInt16.toUInt32.toInt32)), .val (.int ((i3 &&& (255 : Int32)).toUInt32.toUInt16.toUInt32.toInt32)), .val (.int (2 : Int32)), .val (.ref b123), .val (.ref n188_b2), .val (.ref b123)] [])) (fun X t q => XS.ifNo X.here C.hx rfl (hb C.hby at_149) rfl (XT.i0_eq_f (by decide)) q) ?_
    refine Wk.st (g' := (mkF m 154 #[.val (.int i0), .val (.int i1), .val (.int i2), .val (.int i3), .val (.int ((i1 &&& (255 : Int32)).toUInt32.toUInt16.toUInt32.toInt32)), .val (.int ((i2 &&& (255 : Int32)).toUInt32.toUInt16.toUInt32.toInt32)), .val (.int ((i3 &&& (255 : Int32)).toUInt32.toUInt16.toUInt32.toInt32)), .val (.int (2 : Int32)), .val (.ref b123), .val (.ref n188_b2), .val (.ref b123)] [(.ref n188_b2)])) (fun X t q => XS.aload X.here C.hx rfl (hb C.hby at_152) rfl rfl q) ?_
    refine Wk.callV C (x := (⟨"com/example/escrow/escrow/LockRecord", "token", "()J"⟩ : MethodName)) (z := (⟨"com/example/escrow/escrow/LockRecord", "token", "()J"⟩ : MethodName)) (K := "com/example/escrow/escrow/LockRecord") (hw _ (List.mem_of_getElem? (i := 60) rfl)) (hw _ (List.mem_of_getElem? (i := 61) rfl)) (hw _ (List.mem_of_getElem? (i := 63) rfl)) (hw _ (List.mem_of_getElem? (i := 62) rfl)) (hw _ (List.mem_of_getElem? (i := 24) rfl)) (hw _ (List.mem_of_getElem? (i := 64) rfl)) (by decide) (fun s' hZ' => notFace_of_selects (args := #[]) (mvT hZ' (hw _ (List.mem_of_getElem? (i := 63) rfl)))) F191 (own_10_31 l Z a0 hw n0 h189 sz210 n188_b2 b123 n170_n1_n1_b2 (nar .byte ((nar .char ((i1 &&& (255 : Int32)).toUInt32.toUInt16.toUInt32.toInt32)).toInt8.toInt32)) (nar .byte ((nar .char ((i2 &&& (255 : Int32)).toUInt32.toUInt16.toUInt32.toInt32)).toInt8.toInt32)) cs F203 F206 F207 F208 F209 F191 F192 F193 F194 F195 F196 (Ne.symm ne198) (Ne.symm ne200) ne179 ge201 ge128 ge181 hcs) (w := 0) (by decide) (by decide) pd_8 rfl (rest := []) rfl rfl (Nat.le_of_eq rfl) (by decide) (by decide) at_154 ?_
    rintro _ _ ⟨rfl, rfl⟩
    show Wk _ p l e _ s m _ below meth c n0 _ h189 6 32 (mkF m 157 #[.val (.int i0), .val (.int i1), .val (.int i2), .val (.int i3), .val (.int ((i1 &&& (255 : Int32)).toUInt32.toUInt16.toUInt32.toInt32)), .val (.int ((i2 &&& (255 : Int32)).toUInt32.toUInt16.toUInt32.toInt32)), .val (.int ((i3 &&& (255 : Int32)).toUInt32.toUInt16.toUInt32.toInt32)), .val (.int (2 : Int32)), .val (.ref b123), .val (.ref n188_b2), .val (.ref b123)] [(.long (0 : Int64))])
    refine Wk.st (g' := (mkF m 158 #[.val (.int i0), .val (.int i1), .val (.int i2), .val (.int i3), .val (.int ((i1 &&& (255 : Int32)).toUInt32.toUInt16.toUInt32.toInt32)), .val (.int ((i2 &&& (255 : Int32)).toUInt32.toUInt16.toUInt32.toInt32)), .val (.int ((i3 &&& (255 : Int32)).toUInt32.toUInt16.toUInt32.toInt32)), .val (.int (2 : Int32)), .val (.ref b123), .val (.ref n188_b2), .val (.ref b123)] [(.long (0 : Int64)), (.long (0 : Int64))])) (fun X t q => XS.lconst X.here C.hx rfl (hb C.hby at_157) q) ?_
    refine Wk.st (g' := (mkF m 159 #[.val (.int i0), .val (.int i1), .val (.int i2), .val (.int i3), .val (.int ((i1 &&& (255 : Int32)).toUInt32.toUInt16.toUInt32.toInt32)), .val (.int ((i2 &&& (255 : Int32)).toUInt32.toUInt16.toUInt32.toInt32)), .val (.int ((i3 &&& (255 : Int32)).toUInt32.toUInt16.toUInt32.toInt32)), .val (.int (2 : Int32)), .val (.ref b123), .val (.ref n188_b2), .val (.ref b123)] [(.int (XT.cmpL (0 : Int64) (0 : Int64)))])) (fun X t q => XT.lcmp X.here C.hx rfl (hb C.hby at_158) rfl q) ?_
    refine Wk.st (g' := (mkF m 162 #[.val (.int i0), .val (.int i1), .val (.int i2), .val (.int i3), .val (.int ((i1 &&& (255 : Int32)).toUInt32.toUInt16.toUInt32.toInt32)), .val (.int ((i2 &&& (255 : Int32)).toUInt32.toUInt16.toUInt32.toInt32)), .val (.int ((i3 &&& (255 : Int32)).toUInt32.toUInt16.toUInt32.toInt32)), .val (.int (2 : Int32)), .val (.ref b123), .val (.ref n188_b2), .val (.ref b123)] [])) (fun X t q => XS.ifNo X.here C.hx rfl (hb C.hby at_159) rfl (XT.ll_ne_f (by decide)) q) ?_
    refine Wk.st (g' := (mkF m 164 #[.val (.int i0), .val (.int i1), .val (.int i2), .val (.int i3), .val (.int ((i1 &&& (255 : Int32)).toUInt32.toUInt16.toUInt32.toInt32)), .val (.int ((i2 &&& (255 : Int32)).toUInt32.toUInt16.toUInt32.toInt32)), .val (.int ((i3 &&& (255 : Int32)).toUInt32.toUInt16.toUInt32.toInt32)), .val (.int (2 : Int32)), .val (.ref b123), .val (.ref n188_b2), .val (.ref b123)] [(.ref n188_b2)])) (fun X t q => XS.aload X.here C.hx rfl (hb C.hby at_162) rfl rfl q) ?_
    refine Wk.callV C (x := (⟨"com/example/escrow/escrow/LockRecord", "owner", "()Ljava/lang/String;"⟩ : MethodName)) (z := (⟨"com/example/escrow/escrow/LockRecord", "owner", "()Ljava/lang/String;"⟩ : MethodName)) (K := "com/example/escrow/escrow/LockRecord") (hw _ (List.mem_of_getElem? (i := 65) rfl)) (hw _ (List.mem_of_getElem? (i := 66) rfl)) (hw _ (List.mem_of_getElem? (i := 68) rfl)) (hw _ (List.mem_of_getElem? (i := 67) rfl)) (hw _ (List.mem_of_getElem? (i := 24) rfl)) (hw _ (List.mem_of_getElem? (i := 69) rfl)) (by decide) (fun s' hZ' => notFace_of_selects (args := #[]) (mvT hZ' (hw _ (List.mem_of_getElem? (i := 68) rfl)))) F191 (own_11_32 l Z a0 hw n0 h189 sz210 n188_b2 b123 n170_n1_n1_b2 (nar .byte ((nar .char ((i1 &&& (255 : Int32)).toUInt32.toUInt16.toUInt32.toInt32)).toInt8.toInt32)) (nar .byte ((nar .char ((i2 &&& (255 : Int32)).toUInt32.toUInt16.toUInt32.toInt32)).toInt8.toInt32)) cs F203 F206 F207 F208 F209 F191 F192 F193 F194 F195 F196 (Ne.symm ne198) (Ne.symm ne200) ne179 ge201 ge128 ge181 hcs) (w := 0) (by decide) (by decide) pd_6 rfl (rest := []) rfl rfl (Nat.le_of_eq rfl) (by decide) (by decide) at_164 ?_
    rintro _ _ ⟨rfl, rfl⟩
    show Wk _ p l e _ s m _ below meth c n0 _ h189 6 32 (mkF m 167 #[.val (.int i0), .val (.int i1), .val (.int i2), .val (.int i3), .val (.int ((i1 &&& (255 : Int32)).toUInt32.toUInt16.toUInt32.toInt32)), .val (.int ((i2 &&& (255 : Int32)).toUInt32.toUInt16.toUInt32.toInt32)), .val (.int ((i3 &&& (255 : Int32)).toUInt32.toUInt16.toUInt32.toInt32)), .val (.int (2 : Int32)), .val (.ref b123), .val (.ref n188_b2), .val (.ref b123)] [.null])
    refine Wk.st (g' := (mkF m 170 #[.val (.int i0), .val (.int i1), .val (.int i2), .val (.int i3), .val (.int ((i1 &&& (255 : Int32)).toUInt32.toUInt16.toUInt32.toInt32)), .val (.int ((i2 &&& (255 : Int32)).toUInt32.toUInt16.toUInt32.toInt32)), .val (.int ((i3 &&& (255 : Int32)).toUInt32.toUInt16.toUInt32.toInt32)), .val (.int (2 : Int32)), .val (.ref b123), .val (.ref n188_b2), .val (.ref b123)] [])) (fun X t q => XS.ifnonnullNo X.here C.hx rfl (hb C.hby at_167) rfl q) ?_
    refine Wk.st (g' := (mkF m 172 #[.val (.int i0), .val (.int i1), .val (.int i2), .val (.int i3), .val (.int ((i1 &&& (255 : Int32)).toUInt32.toUInt16.toUInt32.toInt32)), .val (.int ((i2 &&& (255 : Int32)).toUInt32.toUInt16.toUInt32.toInt32)), .val (.int ((i3 &&& (255 : Int32)).toUInt32.toUInt16.toUInt32.toInt32)), .val (.int (2 : Int32)), .val (.ref b123), .val (.ref n188_b2), .val (.ref b123)] [(.ref n188_b2)])) (fun X t q => XS.aload X.here C.hx rfl (hb C.hby at_170) rfl rfl q) ?_
    refine Wk.callV C (x := (⟨"com/example/escrow/escrow/LockRecord", "claim", "()Lcom/example/escrow/escrow/Claim;"⟩ : MethodName)) (z := (⟨"com/example/escrow/escrow/LockRecord", "claim", "()Lcom/example/escrow/escrow/Claim;"⟩ : MethodName)) (K := "com/example/escrow/escrow/LockRecord") (hw _ (List.mem_of_getElem? (i := 70) rfl)) (hw _ (List.mem_of_getElem? (i := 71) rfl)) (hw _ (List.mem_of_getElem? (i := 73) rfl)) (hw _ (List.mem_of_getElem? (i := 72) rfl)) (hw _ (List.mem_of_getElem? (i := 24) rfl)) (hw _ (List.mem_of_getElem? (i := 74) rfl)) (by decide) (fun s' hZ' => notFace_of_selects (args := #[]) (mvT hZ' (hw _ (List.mem_of_getElem? (i := 73) rfl)))) F191 (own_12_33 l Z a0 hw n0 h189 sz210 n188_b2 b123 n170_n1_n1_b2 (nar .byte ((nar .char ((i1 &&& (255 : Int32)).toUInt32.toUInt16.toUInt32.toInt32)).toInt8.toInt32)) (nar .byte ((nar .char ((i2 &&& (255 : Int32)).toUInt32.toUInt16.toUInt32.toInt32)).toInt8.toInt32)) cs F203 F206 F207 F208 F209 F191 F192 F193 F194 F195 F196 (Ne.symm ne198) (Ne.symm ne200) ne179 ge201 ge128 ge181 hcs) (w := 0) (by decide) (by decide) pd_9 rfl (rest := []) rfl rfl (Nat.le_of_eq rfl) (by decide) (by decide) at_172 ?_
    rintro _ _ ⟨rfl, rfl⟩
    show Wk _ p l e _ s m _ below meth c n0 _ h189 6 32 (mkF m 175 #[.val (.int i0), .val (.int i1), .val (.int i2), .val (.int i3), .val (.int ((i1 &&& (255 : Int32)).toUInt32.toUInt16.toUInt32.toInt32)), .val (.int ((i2 &&& (255 : Int32)).toUInt32.toUInt16.toUInt32.toInt32)), .val (.int ((i3 &&& (255 : Int32)).toUInt32.toUInt16.toUInt32.toInt32)), .val (.int (2 : Int32)), .val (.ref b123), .val (.ref n188_b2), .val (.ref b123)] [.null])
    refine Wk.st (g' := (mkF m 178 #[.val (.int i0), .val (.int i1), .val (.int i2), .val (.int i3), .val (.int ((i1 &&& (255 : Int32)).toUInt32.toUInt16.toUInt32.toInt32)), .val (.int ((i2 &&& (255 : Int32)).toUInt32.toUInt16.toUInt32.toInt32)), .val (.int ((i3 &&& (255 : Int32)).toUInt32.toUInt16.toUInt32.toInt32)), .val (.int (2 : Int32)), .val (.ref b123), .val (.ref n188_b2), .val (.ref b123)] [])) (fun X t q => XS.ifnonnullNo X.here C.hx rfl (hb C.hby at_175) rfl q) ?_
    refine Wk.st (g' := (mkF m 179 #[.val (.int i0), .val (.int i1), .val (.int i2), .val (.int i3), .val (.int ((i1 &&& (255 : Int32)).toUInt32.toUInt16.toUInt32.toInt32)), .val (.int ((i2 &&& (255 : Int32)).toUInt32.toUInt16.toUInt32.toInt32)), .val (.int ((i3 &&& (255 : Int32)).toUInt32.toUInt16.toUInt32.toInt32)), .val (.int (2 : Int32)), .val (.ref b123), .val (.ref n188_b2), .val (.ref b123)] [(.int (1 : Int32))])) (fun X t q => XS.iconst X.here C.hx rfl (hb C.hby at_178) q) ?_
    refine Wk.st (g' := (mkF m 183 #[.val (.int i0), .val (.int i1), .val (.int i2), .val (.int i3), .val (.int ((i1 &&& (255 : Int32)).toUInt32.toUInt16.toUInt32.toInt32)), .val (.int ((i2 &&& (255 : Int32)).toUInt32.toUInt16.toUInt32.toInt32)), .val (.int ((i3 &&& (255 : Int32)).toUInt32.toUInt16.toUInt32.toInt32)), .val (.int (2 : Int32)), .val (.ref b123), .val (.ref n188_b2), .val (.ref b123)] [(.int (1 : Int32))])) (fun X t q => XS.goto X.here C.hx rfl (pc0 := 179) (pc' := 183) rfl (hb C.hby at_179) (by decide) (by decide) q) ?_
    exact Wk.retV C (t := .boolean) rfl rfl (Or.inl ⟨rfl, by simp, _, rfl⟩) at_183 (by decide) (by decide) rfl
  · skip
    show Wl _ p l e _ s m _ below meth c n0 _ (some ("", 0, 0)) h0 0 0 (mkF m 29 #[.val (.int i0), .val (.int i1), .val (.int i2), .val (.int i3), .val (.int ((i1 &&& (255 : Int32)).toUInt32.toUInt16.toUInt32.toInt32)), .val (.int ((i2 &&& (255 : Int32)).toUInt32.toUInt16.toUInt32.toInt32)), .val (.int ((i3 &&& (255 : Int32)).toUInt32.toUInt16.toUInt32.toInt32)), .val (.int (3 : Int32)), .unset, .unset, .unset] [])
    refine Wl.ofWk ?_
    show Wk _ p l e _ s m _ below meth c n0 _ h0 0 0 (mkF m 29 #[.val (.int i0), .val (.int i1), .val (.int i2), .val (.int i3), .val (.int ((i1 &&& (255 : Int32)).toUInt32.toUInt16.toUInt32.toInt32)), .val (.int ((i2 &&& (255 : Int32)).toUInt32.toUInt16.toUInt32.toInt32)), .val (.int ((i3 &&& (255 : Int32)).toUInt32.toUInt16.toUInt32.toInt32)), .val (.int (3 : Int32)), .unset, .unset, .unset] [])
    refine Wk.st (g' := (mkF m 31 #[.val (.int i0), .val (.int i1), .val (.int i2), .val (.int i3), .val (.int ((i1 &&& (255 : Int32)).toUInt32.toUInt16.toUInt32.toInt32)), .val (.int ((i2 &&& (255 : Int32)).toUInt32.toUInt16.toUInt32.toInt32)), .val (.int ((i3 &&& (255 : Int32)).toUInt32.toUInt16.toUInt32.toInt32)), .val (.int (3 : Int32)), .unset, .unset, .unset] [(.int (3 : Int32))])) (fun X t q => XS.iload X.here C.hx rfl (hb C.hby at_29) rfl q) ?_
    refine Wk.st (g' := (mkF m 49 #[.val (.int i0), .val (.int i1), .val (.int i2), .val (.int i3), .val (.int ((i1 &&& (255 : Int32)).toUInt32.toUInt16.toUInt32.toInt32)), .val (.int ((i2 &&& (255 : Int32)).toUInt32.toUInt16.toUInt32.toInt32)), .val (.int ((i3 &&& (255 : Int32)).toUInt32.toUInt16.toUInt32.toInt32)), .val (.int (3 : Int32)), .unset, .unset, .unset] [])) (fun X t q => XS.ifYes X.here C.hx rfl (pc0 := 31) (pc' := 49) rfl (hb C.hby at_31) rfl (XT.i0_ne_t (by decide)) (by decide) (by decide) q) ?_
    refine Wk.st (g' := (mkF m 51 #[.val (.int i0), .val (.int i1), .val (.int i2), .val (.int i3), .val (.int ((i1 &&& (255 : Int32)).toUInt32.toUInt16.toUInt32.toInt32)), .val (.int ((i2 &&& (255 : Int32)).toUInt32.toUInt16.toUInt32.toInt32)), .val (.int ((i3 &&& (255 : Int32)).toUInt32.toUInt16.toUInt32.toInt32)), .val (.int (3 : Int32)), .unset, .unset, .unset] [(.int (3 : Int32))])) (fun X t q => XS.iload X.here C.hx rfl (hb C.hby at_49) rfl q) ?_
    refine Wk.st (g' := (mkF m 52 #[.val (.int i0), .val (.int i1), .val (.int i2), .val (.int i3), .val (.int ((i1 &&& (255 : Int32)).toUInt32.toUInt16.toUInt32.toInt32)), .val (.int ((i2 &&& (255 : Int32)).toUInt32.toUInt16.toUInt32.toInt32)), .val (.int ((i3 &&& (255 : Int32)).toUInt32.toUInt16.toUInt32.toInt32)), .val (.int (3 : Int32)), .unset, .unset, .unset] [(.int (1 : Int32)), (.int (3 : Int32))])) (fun X t q => XS.iconst X.here C.hx rfl (hb C.hby at_51) q) ?_
    refine Wk.st (g' := (mkF m 65 #[.val (.int i0), .val (.int i1), .val (.int i2), .val (.int i3), .val (.int ((i1 &&& (255 : Int32)).toUInt32.toUInt16.toUInt32.toInt32)), .val (.int ((i2 &&& (255 : Int32)).toUInt32.toUInt16.toUInt32.toInt32)), .val (.int ((i3 &&& (255 : Int32)).toUInt32.toUInt16.toUInt32.toInt32)), .val (.int (3 : Int32)), .unset, .unset, .unset] [])) (fun X t q => XS.icmpYes X.here C.hx rfl (pc0 := 52) (pc' := 65) rfl (hb C.hby at_52) rfl (XT.ii_ne_t (by decide)) (by decide) (by decide) q) ?_
    refine Wk.st (g' := (mkF m 67 #[.val (.int i0), .val (.int i1), .val (.int i2), .val (.int i3), .val (.int ((i1 &&& (255 : Int32)).toUInt32.toUInt16.toUInt32.toInt32)), .val (.int ((i2 &&& (255 : Int32)).toUInt32.toUInt16.toUInt32.toInt32)), .val (.int ((i3 &&& (255 : Int32)).toUInt32.toUInt16.toUInt32.toInt32)), .val (.int (3 : Int32)), .unset, .unset, .unset] [(.int (3 : Int32))])) (fun X t q => XS.iload X.here C.hx rfl (hb C.hby at_65) rfl q) ?_
    refine Wk.st (g' := (mkF m 68 #[.val (.int i0), .val (.int i1), .val (.int i2), .val (.int i3), .val (.int ((i1 &&& (255 : Int32)).toUInt32.toUInt16.toUInt32.toInt32)), .val (.int ((i2 &&& (255 : Int32)).toUInt32.toUInt16.toUInt32.toInt32)), .val (.int ((i3 &&& (255 : Int32)).toUInt32.toUInt16.toUInt32.toInt32)), .val (.int (3 : Int32)), .unset, .unset, .unset] [(.int (2 : Int32)), (.int (3 : Int32))])) (fun X t q => XS.iconst X.here C.hx rfl (hb C.hby at_67) q) ?_
    refine Wk.st (g' := (mkF m 96 #[.val (.int i0), .val (.int i1), .val (.int i2), .val (.int i3), .val (.int ((i1 &&& (255 : Int32)).toUInt32.toUInt16.toUInt32.toInt32)), .val (.int ((i2 &&& (255 : Int32)).toUInt32.toUInt16.toUInt32.toInt32)), .val (.int ((i3 &&& (255 : Int32)).toUInt32.toUInt16.toUInt32.toInt32)), .val (.int (3 : Int32)), .unset, .unset, .unset] [])) (fun X t q => XS.icmpYes X.here C.hx rfl (pc0 := 68) (pc' := 96) rfl (hb C.hby at_68) rfl (XT.ii_ne_t (by decide)) (by decide) (by decide) q) ?_
    refine Wk.newO C (hw _ (List.mem_of_getElem? (i := 0) rfl)) (hw _ (List.mem_of_getElem? (i := 1) rfl)) (hw _ (List.mem_of_getElem? (i := 2) rfl)) at_96 (by decide) (by decide) ?_
    intro h227 b228 g229 E230 A231 D232
    have ge233 : n0 ≤ b228 := Nat.le_trans hsz (Nat.le_of_eq g229.symm)
    have gz234 : h0.size ≤ b228 := Nat.le_trans (Nat.le_refl h0.size) (Nat.le_of_eq g229.symm)
    have F235 : Sta Z h227 "java/lang/String" "COMPACT_STRINGS" "Z" (.int cs) := SC.ext E230
    have sz236 : n0 ≤ h227.size := Nat.le_trans hsz E230.1
    have sy237 : h0.size ≤ h227.size := Nat.le_trans (Nat.le_refl h0.size) E230.1
    have F238 : Fld Z h227 b228 "java/lang/String" "value" "[B" .null := D232 (Or.inr (hw _ (List.mem_of_getElem? (i := 16) rfl))) (ty := (.array .byte)) (by decide)
    have F239 : Fld Z h227 b228 "java/lang/String" "coder" "B" (.int (0 : Int32)) := D232 (Or.inr (hw _ (List.mem_of_getElem? (i := 17) rfl))) (ty := .byte) (by decide)
    show Wk _ p l e _ s m _ below meth c n0 _ h227 1 4 (mkF m 99 #[.val (.int i0), .val (.int i1), .val (.int i2), .val (.int i3), .val (.int ((i1 &&& (255 : Int32)).toUInt32.toUInt16.toUInt32.toInt32)), .val (.int ((i2 &&& (255 : Int32)).toUInt32.toUInt16.toUInt32.toInt32)), .val (.int ((i3 &&& (255 : Int32)).toUInt32.toUInt16.toUInt32.toInt32)), .val (.int (3 : Int32)), .unset, .unset, .unset] [(.ref b228)])
    refine Wk.st (g' := (mkF m 100 #[.val (.int i0), .val (.int i1), .val (.int i2), .val (.int i3), .val (.int ((i1 &&& (255 : Int32)).toUInt32.toUInt16.toUInt32.toInt32)), .val (.int ((i2 &&& (255 : Int32)).toUInt32.toUInt16.toUInt32.toInt32)), .val (.int ((i3 &&& (255 : Int32)).toUInt32.toUInt16.toUInt32.toInt32)), .val (.int (3 : Int32)), .unset, .unset, .unset] [(.ref b228), (.ref b228)])) (fun X t q => XS.dup X.here C.hx rfl (hb C.hby at_99) rfl rfl q) ?_
    refine Wk.st (g' := (mkF m 101 #[.val (.int i0), .val (.int i1), .val (.int i2), .val (.int i3), .val (.int ((i1 &&& (255 : Int32)).toUInt32.toUInt16.toUInt32.toInt32)), .val (.int ((i2 &&& (255 : Int32)).toUInt32.toUInt16.toUInt32.toInt32)), .val (.int ((i3 &&& (255 : Int32)).toUInt32.toUInt16.toUInt32.toInt32)), .val (.int (3 : Int32)), .unset, .unset, .unset] [(.int (3 : Int32)), (.ref b228), (.ref b228)])) (fun X t q => XS.iconst X.here C.hx rfl (hb C.hby at_100) q) ?_
    refine Wk.fNewP C (hw _ (List.mem_of_getElem? (i := 3) rfl)) (ty := .char) (dv := (.int (0 : Int32))) (N := 3) (ad := "[C") rfl rfl (by decide) (by decide) (by decide) (cap := 3) (by decide) (by decide) at_101 (by decide) (by decide) ?_
    intro h240 b241 g242 E243 A244 F245
    have ne246 : b228 ≠ b241 := Nat.ne_of_lt (Nat.lt_of_lt_of_le A231.lt (Nat.le_of_eq g242.symm))
    have ge247 : n0 ≤ b241 := Nat.le_trans sz236 (Nat.le_of_eq g242.symm)
    have gz248 : h0.size ≤ b241 := Nat.le_trans sy237 (Nat.le_of_eq g242.symm)
    have F249 : Sta Z h240 "java/lang/String" "COMPACT_STRINGS" "Z" (.int cs) := F235.ext E243
    have F250 : Exa Z h240 b228 "java/lang/String" := A231.ext E243
    have F251 : Fld Z h240 b228 "java/lang/String" "value" "[B" .null := F238.ext E243
    have F252 : Fld Z h240 b228 "java/lang/String" "coder" "B" (.int (0 : Int32)) := F239.ext E243
    have sz253 : n0 ≤ h240.size := Nat.le_trans sz236 E243.1
    have sy254 : h0.size ≤ h240.size := Nat.le_trans sy237 E243.1
    show Wk _ p l e _ s m _ below meth c n0 _ h240 2 7 (mkF m 103 #[.val (.int i0), .val (.int i1), .val (.int i2), .val (.int i3), .val (.int ((i1 &&& (255 : Int32)).toUInt32.toUInt16.toUInt32.toInt32)), .val (.int ((i2 &&& (255 : Int32)).toUInt32.toUInt16.toUInt32.toInt32)), .val (.int ((i3 &&& (255 : Int32)).toUInt32.toUInt16.toUInt32.toInt32)), .val (.int (3 : Int32)), .unset, .unset, .unset] [(.ref b241), (.ref b228), (.ref b228)])
    refine Wk.st (g' := (mkF m 104 #[.val (.int i0), .val (.int i1), .val (.int i2), .val (.int i3), .val (.int ((i1 &&& (255 : Int32)).toUInt32.toUInt16.toUInt32.toInt32)), .val (.int ((i2 &&& (255 : Int32)).toUInt32.toUInt16.toUInt32.toInt32)), .val (.int ((i3 &&& (255 : Int32)).toUInt32.toUInt16.toUInt32.toInt32)), .val (.int (3 : Int32)), .unset, .unset, .unset] [(.ref b241), (.ref b241), (.ref b228), (.ref b228)])) (fun X t q => XS.dup X.here C.hx rfl (hb C.hby at_103) rfl rfl q) ?_
    refine Wk.st (g' := (mkF m 105 #[.val (.int i0), .val (.int i1), .val (.int i2), .val (.int i3), .val (.int ((i1 &&& (255 : Int32)).toUInt32.toUInt16.toUInt32.toInt32)), .val (.int ((i2 &&& (255 : Int32)).toUInt32.toUInt16.toUInt32.toInt32)), .val (.int ((i3 &&& (255 : Int32)).toUInt32.toUInt16.toUInt32.toInt32)), .val (.int (3 : Int32)), .unset, .unset, .unset] [(.int (0 : Int32)), (.ref b241), (.ref b241), (.ref b228), (.ref b228)])) (fun X t q => XS.iconst X.here C.hx rfl (hb C.hby at_104) q) ?_
    refine Wk.st (g' := (mkF m 107 #[.val (.int i0), .val (.int i1), .val (.int i2), .val (.int i3), .val (.int ((i1 &&& (255 : Int32)).toUInt32.toUInt16.toUInt32.toInt32)), .val (.int ((i2 &&& (255 : Int32)).toUInt32.toUInt16.toUInt32.toInt32)), .val (.int ((i3 &&& (255 : Int32)).toUInt32.toUInt16.toUInt32.toInt32)), .val (.int (3 : Int32)), .unset, .unset, .unset] [(.int ((i1 &&& (255 : Int32)).toUInt32.toUInt16.toUInt32.toInt32)), (.int (0 : Int32)), (.ref b241), (.ref b241), (.ref b228), (.ref b228)])) (fun X t q => XS.iload X.here C.hx rfl (hb C.hby at_105) rfl q) ?_
    refine Wk.fStC C F245 (x' := (nar .char ((i1 &&& (255 : Int32)).toUInt32.toUInt16.toUInt32.toInt32))) rfl (i := 0) (by decide) (by decide) (by decide) ge247 at_107 ?_
    intro h255 W256 F257
    have F258 : Sta Z h255 "java/lang/String" "COMPACT_STRINGS" "Z" (.int cs) := F249.wr W256
    have F259 : Exa Z h255 b228 "java/lang/String" := F250.wr W256
    have F260 : Fld Z h255 b228 "java/lang/String" "value" "[B" .null := F251.other W256 (Or.inl ne246)
    have F261 : Fld Z h255 b228 "java/lang/String" "coder" "B" (.int (0 : Int32)) := F252.other W256 (Or.inl ne246)
    have F262 : Exa Z h255 b241 "[C" := A244.wr W256
    have sz263 : n0 ≤ h255.size := Nat.le_trans sz253 (Nat.le_of_eq W256.size.symm)
    have sy264 : h0.size ≤ h255.size := Nat.le_trans sy254 (Nat.le_of_eq W256.size.symm)
    show Wk _ p l e _ s m _ below meth c n0 _ h255 2 7 (mkF m 108 #[.val (.int i0), .val (.int i1), .val (.int i2), .val (.int i3), .val (.int ((i1 &&& (255 : Int32)).toUInt32.toUInt16.toUInt32.toInt32)), .val (.int ((i2 &&& (255 : Int32)).toUInt32.toUInt16.toUInt32.toInt32)), .val (.int ((i3 &&& (255 : Int32)).toUInt32.toUInt16.toUInt32.toInt32)), .val (.int (3 : Int32)), .unset, .unset, .unset] [(.ref b241), (.ref b228), (.ref b228)])
    refine Wk.st (g' := (mkF m 109 #[.val (.int i0), .val (.int i1), .val (.int i2), .val (.int i3), .val (.int ((i1 &&& (255 : Int32)).toUInt32.toUInt16.toUInt32.toInt32)), .val (.int ((i2 &&& (255 : Int32)).toUInt32.toUInt16.toUInt32.toInt32)), .val (.int ((i3 &&& (255 : Int32)).toUInt32.toUInt16.toUInt32.toInt32)), .val (.int (3 : Int32)), .unset, .unset, .unset] [(.ref b241), (.ref b241), (.ref b228), (.ref b228)])) (fun X t q => XS.dup X.here C.hx rfl (hb C.hby at_108) rfl rfl q) ?_
    refine Wk.st (g' := (mkF m 110 #[.val (.int i0), .val (.int i1), .val (.int i2), .val (.int i3), .val (.int ((i1 &&& (255 : Int32)).toUInt32.toUInt16.toUInt32.toInt32)), .val (.int ((i2 &&& (255 : Int32)).toUInt32.toUInt16.toUInt32.toInt32)), .val (.int ((i3 &&& (255 : Int32)).toUInt32.toUInt16.toUInt32.toInt32)), .val (.int (3 : Int32)), .unset, .unset, .unset] [(.int (1 : Int32)), (.ref b241), (.ref b241), (.ref b228), (.ref b228)])) (fun X t q => XS.iconst X.here C.hx rfl (hb C.hby at_109) q) ?_
    refine Wk.st (g' := (mkF m 112 #[.val (.int i0), .val (.int i1), .val (.int i2), .val (.int i3), .val (.int ((i1 &&& (255 : Int32)).toUInt32.toUInt16.toUInt32.toInt32)), .val (.int ((i2 &&& (255 : Int32)).toUInt32.toUInt16.toUInt32.toInt32)), .val (.int ((i3 &&& (255 : Int32)).toUInt32.toUInt16.toUInt32.toInt32)), .val (.int (3 : Int32)), .unset, .unset, .unset] [(.int ((i2 &&& (255 : Int32)).toUInt32.toUInt16.toUInt32.toInt32)), (.int (1 : Int32)), (.ref b241), (.ref b241), (.ref b228), (.ref b228)])) (fun X t q => XS.iload X.here C.hx rfl (hb C.hby at_110) rfl q) ?_
    refine Wk.fStC C F257 (x' := (nar .char ((i2 &&& (255 : Int32)).toUInt32.toUInt16.toUInt32.toInt32))) rfl (i := 1) (by decide) (by decide) (by decide) ge247 at_112 ?_
    intro h265 W266 F267
    have F268 : Sta Z h265 "java/lang/String" "COMPACT_STRINGS" "Z" (.int cs) := F258.wr W266
    have F269 : Exa Z h265 b228 "java/lang/String" := F259.wr W266
    have F270 : Fld Z h265 b228 "java/lang/String" "value" "[B" .null := F260.other W266 (Or.inl ne246)
    have F271 : Fld Z h265 b228 "java/lang/String" "coder" "B" (.int (0 : Int32)) := F261.other W266 (Or.inl ne246)
    have F272 : Exa Z h265 b241 "[C" := F262.wr W266
    have sz273 : n0 ≤ h265.size := Nat.le_trans sz263 (Nat.le_of_eq W266.size.symm)
    have sy274 : h0.size ≤ h265.size := Nat.le_trans sy264 (Nat.le_of_eq W266.size.symm)
    show Wk _ p l e _ s m _ below meth c n0 _ h265 2 7 (mkF m 113 #[.val (.int i0), .val (.int i1), .val (.int i2), .val (.int i3), .val (.int ((i1 &&& (255 : Int32)).toUInt32.toUInt16.toUInt32.toInt32)), .val (.int ((i2 &&& (255 : Int32)).toUInt32.toUInt16.toUInt32.toInt32)), .val (.int ((i3 &&& (255 : Int32)).toUInt32.toUInt16.toUInt32.toInt32)), .val (.int (3 : Int32)), .unset, .unset, .unset] [(.ref b241), (.ref b228), (.ref b228)])
    refine Wk.st (g' := (mkF m 114 #[.val (.int i0), .val (.int i1), .val (.int i2), .val (.int i3), .val (.int ((i1 &&& (255 : Int32)).toUInt32.toUInt16.toUInt32.toInt32)), .val (.int ((i2 &&& (255 : Int32)).toUInt32.toUInt16.toUInt32.toInt32)), .val (.int ((i3 &&& (255 : Int32)).toUInt32.toUInt16.toUInt32.toInt32)), .val (.int (3 : Int32)), .unset, .unset, .unset] [(.ref b241), (.ref b241), (.ref b228), (.ref b228)])) (fun X t q => XS.dup X.here C.hx rfl (hb C.hby at_113) rfl rfl q) ?_
    refine Wk.st (g' := (mkF m 115 #[.val (.int i0), .val (.int i1), .val (.int i2), .val (.int i3), .val (.int ((i1 &&& (255 : Int32)).toUInt32.toUInt16.toUInt32.toInt32)), .val (.int ((i2 &&& (255 : Int32)).toUInt32.toUInt16.toUInt32.toInt32)), .val (.int ((i3 &&& (255 : Int32)).toUInt32.toUInt16.toUInt32.toInt32)), .val (.int (3 : Int32)), .unset, .unset, .unset] [(.int (2 : Int32)), (.ref b241), (.ref b241), (.ref b228), (.ref b228)])) (fun X t q => XS.iconst X.here C.hx rfl (hb C.hby at_114) q) ?_
    refine Wk.st (g' := (mkF m 117 #[.val (.int i0), .val (.int i1), .val (.int i2), .val (.int i3), .val (.int ((i1 &&& (255 : Int32)).toUInt32.toUInt16.toUInt32.toInt32)), .val (.int ((i2 &&& (255 : Int32)).toUInt32.toUInt16.toUInt32.toInt32)), .val (.int ((i3 &&& (255 : Int32)).toUInt32.toUInt16.toUInt32.toInt32)), .val (.int (3 : Int32)), .unset, .unset, .unset] [(.int ((i3 &&& (255 : Int32)).toUInt32.toUInt16.toUInt32.toInt32)), (.int (2 : Int32)), (.ref b241), (.ref b241), (.ref b228), (.ref b228)])) (fun X t q => XS.iload X.here C.hx rfl (hb C.hby at_115) rfl q) ?_
    refine Wk.fStC C F267 (x' := (nar .char ((i3 &&& (255 : Int32)).toUInt32.toUInt16.toUInt32.toInt32))) rfl (i := 2) (by decide) (by decide) (by decide) ge247 at_117 ?_
    intro h275 W276 F277
    have F278 : Sta Z h275 "java/lang/String" "COMPACT_STRINGS" "Z" (.int cs) := F268.wr W276
    have F279 : Exa Z h275 b228 "java/lang/String" := F269.wr W276
    have F280 : Fld Z h275 b228 "java/lang/String" "value" "[B" .null := F270.other W276 (Or.inl ne246)
    have F281 : Fld Z h275 b228 "java/lang/String" "coder" "B" (.int (0 : Int32)) := F271.other W276 (Or.inl ne246)
    have F282 : Exa Z h275 b241 "[C" := F272.wr W276
    have sz283 : n0 ≤ h275.size := Nat.le_trans sz273 (Nat.le_of_eq W276.size.symm)
    have sy284 : h0.size ≤ h275.size := Nat.le_trans sy274 (Nat.le_of_eq W276.size.symm)
    show Wk _ p l e _ s m _ below meth c n0 _ h275 2 7 (mkF m 118 #[.val (.int i0), .val (.int i1), .val (.int i2), .val (.int i3), .val (.int ((i1 &&& (255 : Int32)).toUInt32.toUInt16.toUInt32.toInt32)), .val (.int ((i2 &&& (255 : Int32)).toUInt32.toUInt16.toUInt32.toInt32)), .val (.int ((i3 &&& (255 : Int32)).toUInt32.toUInt16.toUInt32.toInt32)), .val (.int (3 : Int32)), .unset, .unset, .unset] [(.ref b241), (.ref b228), (.ref b228)])
    refine Wk.callI C (z := (⟨"java/lang/String", "<init>", "([C)V"⟩ : MethodName)) rfl (hw _ (List.mem_of_getElem? (i := 4) rfl)) (hw _ (List.mem_of_getElem? (i := 5) rfl)) (hw _ (List.mem_of_getElem? (i := 2) rfl)) (hw _ (List.mem_of_getElem? (i := 6) rfl)) (by decide) (own_1_34 l Z a0 hw n0 h275 sz283 b228 b241 cs (nar .char ((i1 &&& (255 : Int32)).toUInt32.toUInt16.toUInt32.toInt32)) (nar .char ((i2 &&& (255 : Int32)).toUInt32.toUInt16.toUInt32.toInt32)) (nar .char ((i3 &&& (255 : Int32)).toUInt32.toUInt16.toUInt32.toInt32)) F278 F279 F280 F281 F282 F277 ne246 ge233 ge247 (latn i1) (latn i2) (latn i3) hcs) (w := 1) (by decide) (by decide) pd_1 rfl (rest := [(.ref b228)]) rfl rfl (Nat.le_of_eq rfl) (by decide) (by decide) at_118 ?_
    rintro _ h286 ⟨n285_n1_n1_b2, rfl, K287, gn293, F288, F289, F290, F291, F292⟩
    show Wk _ p l e _ s m _ below meth c n0 _ h286 3 10 (mkF m 121 #[.val (.int i0), .val (.int i1), .val (.int i2), .val (.int i3), .val (.int ((i1 &&& (255 : Int32)).toUInt32.toUInt16.toUInt32.toInt32)), .val (.int ((i2 &&& (255 : Int32)).toUInt32.toUInt16.toUInt32.toInt32)), .val (.int ((i3 &&& (255 : Int32)).toUInt32.toUInt16.toUInt32.toInt32)), .val (.int (3 : Int32)), .unset, .unset, .unset] [(.ref b228)])
    have ne294 : b228 ≠ n285_n1_n1_b2 := Nat.ne_of_lt (Nat.lt_of_lt_of_le F279.lt gn293)
    have ne295 : b241 ≠ n285_n1_n1_b2 := Nat.ne_of_lt (Nat.lt_of_lt_of_le F282.lt gn293)
    have ge296 : n0 ≤ n285_n1_n1_b2 := Nat.le_trans sz283 gn293
    have gz297 : h0.size ≤ n285_n1_n1_b2 := Nat.le_trans sy284 gn293
    have F298 : Exa Z h286 b228 "java/lang/String" := F279.keep K287
    have F299 : Exa Z h286 b241 "[C" := F282.keep K287
    have F300 : Fa Z h286 b241 .char 3 (up (up (up (fun _ => (.int (0 : Int32))) 0 (.int (nar .char ((i1 &&& (255 : Int32)).toUInt32.toUInt16.toUInt32.toInt32)))) 1 (.int (nar .char ((i2 &&& (255 : Int32)).toUInt32.toUInt16.toUInt32.toInt32)))) 2 (.int (nar .char ((i3 &&& (255 : Int32)).toUInt32.toUInt16.toUInt32.toInt32)))) := F277.keep K287 (nmS (Ne.symm ne246) nm0)
    have sz301 : n0 ≤ h286.size := Nat.le_trans sz283 K287.1
    have sy302 : h0.size ≤ h286.size := Nat.le_trans sy284 K287.1
    refine Wk.st (g' := (mkF m 123 #[.val (.int i0), .val (.int i1), .val (.int i2), .val (.int i3), .val (.int ((i1 &&& (255 : Int32)).toUInt32.toUInt16.toUInt32.toInt32)), .val (.int ((i2 &&& (255 : Int32)).toUInt32.toUInt16.toUInt32.toInt32)), .val (.int ((i3 &&& (255 : Int32)).toUInt32.toUInt16.toUInt32.toInt32)), .val (.int (3 : Int32)), .val (.ref b228), .unset, .unset] [])) (fun X t q => XS.astore X.here C.hx rfl (hb C.hby at_121) rfl rfl (l' := #[.val (.int i0), .val (.int i1), .val (.int i2), .val (.int i3), .val (.int ((i1 &&& (255 : Int32)).toUInt32.toUInt16.toUInt32.toInt32)), .val (.int ((i2 &&& (255 : Int32)).toUInt32.toUInt16.toUInt32.toInt32)), .val (.int ((i3 &&& (255 : Int32)).toUInt32.toUInt16.toUInt32.toInt32)), .val (.int (3 : Int32)), .val (.ref b228), .unset, .unset]) rfl q) ?_
    refine Wk.st (g' := (mkF m 125 #[.val (.int i0), .val (.int i1), .val (.int i2), .val (.int i3), .val (.int ((i1 &&& (255 : Int32)).toUInt32.toUInt16.toUInt32.toInt32)), .val (.int ((i2 &&& (255 : Int32)).toUInt32.toUInt16.toUInt32.toInt32)), .val (.int ((i3 &&& (255 : Int32)).toUInt32.toUInt16.toUInt32.toInt32)), .val (.int (3 : Int32)), .val (.ref b228), .unset, .unset] [(.ref b228)])) (fun X t q => XS.aload X.here C.hx rfl (hb C.hby at_123) rfl rfl q) ?_
    refine Wk.callS C (z := (⟨"com/example/escrow/escrow/LockRecord", "untaken", "(Ljava/lang/String;)Lcom/example/escrow/escrow/LockRecord;"⟩ : MethodName)) (hw _ (List.mem_of_getElem? (i := 22) rfl)) (hw _ (List.mem_of_getElem? (i := 23) rfl)) (hw _ (List.mem_of_getElem? (i := 24) rfl)) (hw _ (List.mem_of_getElem? (i := 25) rfl)) (by decide) (own_4_39 l Z a0 hw n0 h286 sz301 b228 n285_n1_n1_b2 cs (nar .byte ((nar .char ((i1 &&& (255 : Int32)).toUInt32.toUInt16.toUInt32.toInt32)).toInt8.toInt32)) (nar .byte ((nar .char ((i2 &&& (255 : Int32)).toUInt32.toUInt16.toUInt32.toInt32)).toInt8.toInt32)) (nar .byte ((nar .char ((i3 &&& (255 : Int32)).toUInt32.toUInt16.toUInt32.toInt32)).toInt8.toInt32)) F298 F288 F289 F290 F291 F292 ne294 ge233 ge296 hcs) (w := 0) (by decide) (by decide) pd_2 rfl (rest := []) rfl rfl (Nat.le_of_eq rfl) (by decide) (by decide) at_125 ?_
    rintro _ h304 ⟨n303_b2, rfl, K305, gn312, F306, F307, F308, F309, F310, F311⟩
    show Wk _ p l e _ s m _ below meth c n0 _ h304 6 34 (mkF m 128 #[.val (.int i0), .val (.int i1), .val (.int i2), .val (.int i3), .val (.int ((i1 &&& (255 : Int32)).toUInt32.toUInt16.toUInt32.toInt32)), .val (.int ((i2 &&& (255 : Int32)).toUInt32.toUInt16.toUInt32.toInt32)), .val (.int ((i3 &&& (255 : Int32)).toUInt32.toUInt16.toUInt32.toInt32)), .val (.int (3 : Int32)), .val (.ref b228), .unset, .unset] [(.ref n303_b2)])
    have ne313 : b228 ≠ n303_b2 := Nat.ne_of_lt (Nat.lt_of_lt_of_le F298.lt gn312)
    have ne314 : b241 ≠ n303_b2 := Nat.ne_of_lt (Nat.lt_of_lt_of_le F299.lt gn312)
    have ne315 : n285_n1_n1_b2 ≠ n303_b2 := Nat.ne_of_lt (Nat.lt_of_lt_of_le F288.lt gn312)
    have ge316 : n0 ≤ n303_b2 := Nat.le_trans sz301 gn312
    have gz317 : h0.size ≤ n303_b2 := Nat.le_trans sy302 gn312
    have F318 : Exa Z h304 b228 "java/lang/String" := F298.keep K305
    have F319 : Exa Z h304 b241 "[C" := F299.keep K305
    have F320 : Fa Z h304 b241 .char 3 (up (up (up (fun _ => (.int (0 : Int32))) 0 (.int (nar .char ((i1 &&& (255 : Int32)).toUInt32.toUInt16.toUInt32.toInt32)))) 1 (.int (nar .char ((i2 &&& (255 : Int32)).toUInt32.toUInt16.toUInt32.toInt32)))) 2 (.int (nar .char ((i3 &&& (255 : Int32)).toUInt32.toUInt16.toUInt32.toInt32)))) := F300.keep K305 nm0
    have F321 : Exa Z h304 n285_n1_n1_b2 "[B" := F288.keep K305
    have F322 : Fa Z h304 n285_n1_n1_b2 .byte 3 (up (up (up (fun _ => (.int (0 : Int32))) 0 (.int (nar .byte ((nar .char ((i1 &&& (255 : Int32)).toUInt32.toUInt16.toUInt32.toInt32)).toInt8.toInt32)))) 1 (.int (nar .byte ((nar .char ((i2 &&& (255 : Int32)).toUInt32.toUInt16.toUInt32.toInt32)).toInt8.toInt32)))) 2 (.int (nar .byte ((nar .char ((i3 &&& (255 : Int32)).toUInt32.toUInt16.toUInt32.toInt32)).toInt8.toInt32)))) := F290.keep K305 nm0
    have F323 : Fld Z h304 b228 "java/lang/String" "coder" "B" (.int (0 : Int32)) := F291.keep K305 nm0
    have F324 : Fld Z h304 b228 "java/lang/String" "value" "[B" (.ref n285_n1_n1_b2) := F292.keep K305 nm0
    have sz325 : n0 ≤ h304.size := Nat.le_trans sz301 K305.1
    have sy326 : h0.size ≤ h304.size := Nat.le_trans sy302 K305.1
    refine Wk.st (g' := (mkF m 130 #[.val (.int i0), .val (.int i1), .val (.int i2), .val (.int i3), .val (.int ((i1 &&& (255 : Int32)).toUInt32.toUInt16.toUInt32.toInt32)), .val (.int ((i2 &&& (255 : Int32)).toUInt32.toUInt16.toUInt32.toInt32)), .val (.int ((i3 &&& (255 : Int32)).toUInt32.toUInt16.toUInt32.toInt32)), .val (.int (3 : Int32)), .val (.ref b228), .val (.ref n303_b2), .unset] [])) (fun X t q => XS.astore X.here C.hx rfl (hb C.hby at_128) rfl rfl (l' := #[.val (.int i0), .val (.int i1), .val (.int i2), .val (.int i3), .val (.int ((i1 &&& (255 : Int32)).toUInt32.toUInt16.toUInt32.toInt32)), .val (.int ((i2 &&& (255 : Int32)).toUInt32.toUInt16.toUInt32.toInt32)), .val (.int ((i3 &&& (255 : Int32)).toUInt32.toUInt16.toUInt32.toInt32)), .val (.int (3 : Int32)), .val (.ref b228), .val (.ref n303_b2), .unset]) rfl q) ?_
    refine Wk.st (g' := (mkF m 132 #[.val (.int i0), .val (.int i1), .val (.int i2), .val (.int i3), .val (.int ((i1 &&& (255 : Int32)).toUInt32.toUInt16.toUInt32.toInt32)), .val (.int ((i2 &&& (255 : Int32)).toUInt32.toUInt16.toUInt32.toInt32)), .val (.int ((i3 &&& (255 : Int32)).toUInt32.toUInt16.toUInt32.toInt32)), .val (.int (3 : Int32)), .val (.ref b228), .val (.ref n303_b2), .unset] [(.ref n303_b2)])) (fun X t q => XS.aload X.here C.hx rfl (hb C.hby at_130) rfl rfl q) ?_
    refine Wk.callV C (x := (⟨"com/example/escrow/escrow/LockRecord", "name", "()Ljava/lang/String;"⟩ : MethodName)) (z := (⟨"com/example/escrow/escrow/LockRecord", "name", "()Ljava/lang/String;"⟩ : MethodName)) (K := "com/example/escrow/escrow/LockRecord") (hw _ (List.mem_of_getElem? (i := 50) rfl)) (hw _ (List.mem_of_getElem? (i := 51) rfl)) (hw _ (List.mem_of_getElem? (i := 53) rfl)) (hw _ (List.mem_of_getElem? (i := 52) rfl)) (hw _ (List.mem_of_getElem? (i := 24) rfl)) (hw _ (List.mem_of_getElem? (i := 54) rfl)) (by decide) (fun s' hZ' => notFace_of_selects (args := #[]) (mvT hZ' (hw _ (List.mem_of_getElem? (i := 53) rfl)))) F306 (own_8_42 l Z a0 hw n0 h304 sz325 n303_b2 b228 n285_n1_n1_b2 (nar .byte ((nar .char ((i1 &&& (255 : Int32)).toUInt32.toUInt16.toUInt32.toInt32)).toInt8.toInt32)) (nar .byte ((nar .char ((i2 &&& (255 : Int32)).toUInt32.toUInt16.toUInt32.toInt32)).toInt8.toInt32)) (nar .byte ((nar .char ((i3 &&& (255 : Int32)).toUInt32.toUInt16.toUInt32.toInt32)).toInt8.toInt32)) cs F318 F321 F322 F323 F324 F306 F307 F308 F309 F310 F311 (Ne.symm ne313) (Ne.symm ne315) ne294 ge316 ge233 ge296 hcs) (w := 0) (by decide) (by decide) pd_6 rfl (rest := []) rfl rfl (Nat.le_of_eq rfl) (by decide) (by decide) at_132 ?_
    rintro _ _ ⟨rfl, rfl⟩
    show Wk _ p l e _ s m _ below meth c n0 _ h304 6 34 (mkF m 135 #[.val (.int i0), .val (.int i1), .val (.int i2), .val (.int i3), .val (.int ((i1 &&& (255 : Int32)).toUInt32.toUInt16.toUInt32.toInt32)), .val (.int ((i2 &&& (255 : Int32)).toUInt32.toUInt16.toUInt32.toInt32)), .val (.int ((i3 &&& (255 : Int32)).toUInt32.toUInt16.toUInt32.toInt32)), .val (.int (3 : Int32)), .val (.ref b228), .val (.ref n303_b2), .unset] [(.ref b228)])
    refine Wk.st (g' := (mkF m 137 #[.val (.int i0), .val (.int i1), .val (.int i2), .val (.int i3), .val (.int ((i1 &&& (255 : Int32)).toUInt32.toUInt16.toUInt32.toInt32)), .val (.int ((i2 &&& (255 : Int32)).toUInt32.toUInt16.toUInt32.toInt32)), .val (.int ((i3 &&& (255 : Int32)).toUInt32.toUInt16.toUInt32.toInt32)), .val (.int (3 : Int32)), .val (.ref b228), .val (.ref n303_b2), .val (.ref b228)] [])) (fun X t q => XS.astore X.here C.hx rfl (hb C.hby at_135) rfl rfl (l' := #[.val (.int i0), .val (.int i1), .val (.int i2), .val (.int i3), .val (.int ((i1 &&& (255 : Int32)).toUInt32.toUInt16.toUInt32.toInt32)), .val (.int ((i2 &&& (255 : Int32)).toUInt32.toUInt16.toUInt32.toInt32)), .val (.int ((i3 &&& (255 : Int32)).toUInt32.toUInt16.toUInt32.toInt32)), .val (.int (3 : Int32)), .val (.ref b228), .val (.ref n303_b2), .val (.ref b228)]) rfl q) ?_
    refine Wk.st (g' := (mkF m 139 #[.val (.int i0), .val (.int i1), .val (.int i2), .val (.int i3), .val (.int ((i1 &&& (255 : Int32)).toUInt32.toUInt16.toUInt32.toInt32)), .val (.int ((i2 &&& (255 : Int32)).toUInt32.toUInt16.toUInt32.toInt32)), .val (.int ((i3 &&& (255 : Int32)).toUInt32.toUInt16.toUInt32.toInt32)), .val (.int (3 : Int32)), .val (.ref b228), .val (.ref n303_b2), .val (.ref b228)] [(.ref b228)])) (fun X t q => XS.aload X.here C.hx rfl (hb C.hby at_137) rfl rfl q) ?_
    refine Wk.st (g' := (mkF m 142 #[.val (.int i0), .val (.int i1), .val (.int i2), .val (.int i3), .val (.int ((i1 &&& (255 : Int32)).toUInt32.toUInt16.toUInt32.toInt32)), .val (.int ((i2 &&& (255 : Int32)).toUInt32.toUInt16.toUInt32.toInt32)), .val (.int ((i3 &&& (255 : Int32)).toUInt32.toUInt16.toUInt32.toInt32)), .val (.int (3 : Int32)), .val (.ref b228), .val (.ref n303_b2), .val (.ref b228)] [])) (fun X t q => XS.ifnullNo X.here C.hx rfl (hb C.hby at_139) rfl q) ?_
    refine Wk.st (g' := (mkF m 144 #[.val (.int i0), .val (.int i1), .val (.int i2), .val (.int i3), .val (.int ((i1 &&& (255 : Int32)).toUInt32.toUInt16.toUInt32.toInt32)), .val (.int ((i2 &&& (255 : Int32)).toUInt32.toUInt16.toUInt32.toInt32)), .val (.int ((i3 &&& (255 : Int32)).toUInt32.toUInt16.toUInt32.toInt32)), .val (.int (3 : Int32)), .val (.ref b228), .val (.ref n303_b2), .val (.ref b228)] [(.ref b228)])) (fun X t q => XS.aload X.here C.hx rfl (hb C.hby at_142) rfl rfl q) ?_
    refine Wk.st (g' := (mkF m 146 #[.val (.int i0), .val (.int i1), .val (.int i2), .val (.int i3), .val (.int ((i1 &&& (255 : Int32)).toUInt32.toUInt16.toUInt32.toInt32)), .val (.int ((i2 &&& (255 : Int32)).toUInt32.toUInt16.toUInt32.toInt32)), .val (.int ((i3 &&& (255 : Int32)).toUInt32.toUInt16.toUInt32.toInt32)), .val (.int (3 : Int32)), .val (.ref b228), .val (.ref n303_b2), .val (.ref b228)] [(.ref b228), (.ref b228)])) (fun X t q => XS.aload X.here C.hx rfl (hb C.hby at_144) rfl rfl q) ?_
    refine Wk.callV C (x := (⟨"java/lang/String", "equals", "(Ljava/lang/Object;)Z"⟩ : MethodName)) (z := (⟨"java/lang/String", "equals", "(Ljava/lang/Object;)Z"⟩ : MethodName)) (K := "java/lang/String") (hw _ (List.mem_of_getElem? (i := 55) rfl)) (hw _ (List.mem_of_getElem? (i := 56) rfl)) (hw _ (List.mem_of_getElem? (i := 58) rfl)) (hw _ (List.mem_of_getElem? (i := 57) rfl)) (hw _ (List.mem_of_getElem? (i := 2) rfl)) (hw _ (List.mem_of_getElem? (i := 59) rfl)) (by decide) (fun s' hZ' => notFace_of_selects (args := #[]) (mvT hZ' (hw _ (List.mem_of_getElem? (i := 58) rfl)))) F318 (own_9_43 l Z a0 hw n0 h304 sz325 b228 n285_n1_n1_b2 (nar .byte ((nar .char ((i1 &&& (255 : Int32)).toUInt32.toUInt16.toUInt32.toInt32)).toInt8.toInt32)) (nar .byte ((nar .char ((i2 &&& (255 : Int32)).toUInt32.toUInt16.toUInt32.toInt32)).toInt8.toInt32)) (nar .byte ((nar .char ((i3 &&& (255 : Int32)).toUInt32.toUInt16.toUInt32.toInt32)).toInt8.toInt32)) cs F318 F321 F322 F323 F324 F307 ne294 ge233 ge296 hcs) (w := 0) (by decide) (by decide) pd_7 rfl (rest := []) rfl rfl (Nat.le_of_eq rfl) (by decide) (by decide) at_146 ?_
    rintro _ _ ⟨rfl, rfl⟩
    show Wk _ p l e _ s m _ below meth c n0 _ h304 6 34 (mkF m 149 #[.val (.int i0), .val (.int i1), .val (.int i2), .val (.int i3), .val (.int ((i1 &&& (255 : Int32)).toUInt32.toUInt16.toUInt32.toInt32)), .val (.int ((i2 &&& (255 : Int32)).toUInt32.toUInt16.toUInt32.toInt32)), .val (.int ((i3 &&& (255 : Int32)).toUInt32.toUInt16.toUInt32.toInt32)), .val (.int (3 : Int32)), .val (.ref b228), .val (.ref n303_b2), .val (.ref b228)] [(.int (1 : Int32))])
    refine Wk.st (g' := (mkF m 152 #[.val (.int i0), .val (.int i1), .val (.int i2), .val (.int i3), .val (.int ((i1 &&& (255 : Int32)).toUInt32.toUInt16.toUInt32.toInt32)), .val (.int ((i2 &&& (255 : Int32)).toUInt32.toUInt16.toUInt32.toInt32)), .val (.int ((i3 &&& (255 : Int32)).toUInt32.toUInt16.toUInt32.toInt32)), .val (.int (3 : Int32)), .val (.ref b228), .val (.ref n303_b2), .val (.ref b228)] [])) (fun X t q => XS.ifNo X.here C.hx rfl (hb C.hby at_149) rfl (XT.i0_eq_f (by decide)) q) ?_
    refine Wk.st (g' := (mkF m 154 #[.val (.int i0), .val (.int i1), .val (.int i2), .val (.int i3), .val (.int ((i1 &&& (255 : Int32)).toUInt32.toUInt16.toUInt32.toInt32)), .val (.int ((i2 &&& (255 : Int32)).toUInt32.toUInt16.toUInt32.toInt32)), .val (.int ((i3 &&& (255 : Int32)).toUInt32.toUInt16.toUInt32.toInt32)), .val (.int (3 : Int32)), .val (.ref b228), .val (.ref n303_b2), .val (.ref b228)] [(.ref n303_b2)])) (fun X t q => XS.aload X.here C.hx rfl (hb C.hby at_152) rfl rfl q) ?_
    refine Wk.callV C (x := (⟨"com/example/escrow/escrow/LockRecord", "token", "()J"⟩ : MethodName)) (z := (⟨"com/example/escrow/escrow/LockRecord", "token", "()J"⟩ : MethodName)) (K := "com/example/escrow/escrow/LockRecord") (hw _ (List.mem_of_getElem? (i := 60) rfl)) (hw _ (List.mem_of_getElem? (i := 61) rfl)) (hw _ (List.mem_of_getElem? (i := 63) rfl)) (hw _ (List.mem_of_getElem? (i := 62) rfl)) (hw _ (List.mem_of_getElem? (i := 24) rfl)) (hw _ (List.mem_of_getElem? (i := 64) rfl)) (by decide) (fun s' hZ' => notFace_of_selects (args := #[]) (mvT hZ' (hw _ (List.mem_of_getElem? (i := 63) rfl)))) F306 (own_10_44 l Z a0 hw n0 h304 sz325 n303_b2 b228 n285_n1_n1_b2 (nar .byte ((nar .char ((i1 &&& (255 : Int32)).toUInt32.toUInt16.toUInt32.toInt32)).toInt8.toInt32)) (nar .byte ((nar .char ((i2 &&& (255 : Int32)).toUInt32.toUInt16.toUInt32.toInt32)).toInt8.toInt32)) (nar .byte ((nar .char ((i3 &&& (255 : Int32)).toUInt32.toUInt16.toUInt32.toInt32)).toInt8.toInt32)) cs F318 F321 F322 F323 F324 F306 F307 F308 F309 F310 F311 (Ne.symm ne313) (Ne.symm ne315) ne294 ge316 ge233 ge296 hcs) (w := 0) (by decide) (by decide) pd_8 rfl (rest := []) rfl rfl (Nat.le_of_eq rfl) (by decide) (by decide) at_154 ?_
    rintro _ _ ⟨rfl, rfl⟩
    show Wk _ p l e _ s m _ below meth c n0 _ h304 6 34 (mkF m 157 #[.val (.int i0), .val (.int i1), .val (.int i2), .val (.int i3), .val (.int ((i1 &&& (255 : Int32)).toUInt32.toUInt16.toUInt32.toInt32)), .val (.int ((i2 &&& (255 : Int32)).toUInt32.toUInt16.toUInt32.toInt32)), .val (.int ((i3 &&& (255 : Int32)).toUInt32.toUInt16.toUInt32.toInt32)), .val (.int (3 : Int32)), .val (.ref b228), .val (.ref n303_b2), .val (.ref b228)] [(.long (0 : Int64))])
    refine Wk.st (g' := (mkF m 158 #[.val (.int i0), .val (.int i1), .val (.int i2), .val (.int i3), .val (.int ((i1 &&& (255 : Int32)).toUInt32.toUInt16.toUInt32.toInt32)), .val (.int ((i2 &&& (255 : Int32)).toUInt32.toUInt16.toUInt32.toInt32)), .val (.int ((i3 &&& (255 : Int32)).toUInt32.toUInt16.toUInt32.toInt32)), .val (.int (3 : Int32)), .val (.ref b228), .val (.ref n303_b2), .val (.ref b228)] [(.long (0 : Int64)), (.long (0 : Int64))])) (fun X t q => XS.lconst X.here C.hx rfl (hb C.hby at_157) q) ?_
    refine Wk.st (g' := (mkF m 159 #[.val (.int i0), .val (.int i1), .val (.int i2), .val (.int i3), .val (.int ((i1 &&& (255 : Int32)).toUInt32.toUInt16.toUInt32.toInt32)), .val (.int ((i2 &&& (255 : Int32)).toUInt32.toUInt16.toUInt32.toInt32)), .val (.int ((i3 &&& (255 : Int32)).toUInt32.toUInt16.toUInt32.toInt32)), .val (.int (3 : Int32)), .val (.ref b228), .val (.ref n303_b2), .val (.ref b228)] [(.int (XT.cmpL (0 : Int64) (0 : Int64)))])) (fun X t q => XT.lcmp X.here C.hx rfl (hb C.hby at_158) rfl q) ?_
    refine Wk.st (g' := (mkF m 162 #[.val (.int i0), .val (.int i1), .val (.int i2), .val (.int i3), .val (.int ((i1 &&& (255 : Int32)).toUInt32.toUInt16.toUInt32.toInt32)), .val (.int ((i2 &&& (255 : Int32)).toUInt32.toUInt16.toUInt32.toInt32)), .val (.int ((i3 &&& (255 : Int32)).toUInt32.toUInt16.toUInt32.toInt32)), .val (.int (3 : Int32)), .val (.ref b228), .val (.ref n303_b2), .val (.ref b228)] [])) (fun X t q => XS.ifNo X.here C.hx rfl (hb C.hby at_159) rfl (XT.ll_ne_f (by decide)) q) ?_
    refine Wk.st (g' := (mkF m 164 #[.val (.int i0), .val (.int i1), .val (.int i2), .val (.int i3), .val (.int ((i1 &&& (255 : Int32)).toUInt32.toUInt16.toUInt32.toInt32)), .val (.int ((i2 &&& (255 : Int32)).toUInt32.toUInt16.toUInt32.toInt32)), .val (.int ((i3 &&& (255 : Int32)).toUInt32.toUInt16.toUInt32.toInt32)), .val (.int (3 : Int32)), .val (.ref b228), .val (.ref n303_b2), .val (.ref b228)] [(.ref n303_b2)])) (fun X t q => XS.aload X.here C.hx rfl (hb C.hby at_162) rfl rfl q) ?_
    refine Wk.callV C (x := (⟨"com/example/escrow/escrow/LockRecord", "owner", "()Ljava/lang/String;"⟩ : MethodName)) (z := (⟨"com/example/escrow/escrow/LockRecord", "owner", "()Ljava/lang/String;"⟩ : MethodName)) (K := "com/example/escrow/escrow/LockRecord") (hw _ (List.mem_of_getElem? (i := 65) rfl)) (hw _ (List.mem_of_getElem? (i := 66) rfl)) (hw _ (List.mem_of_getElem? (i := 68) rfl)) (hw _ (List.mem_of_getElem? (i := 67) rfl)) (hw _ (List.mem_of_getElem? (i := 24) rfl)) (hw _ (List.mem_of_getElem? (i := 69) rfl)) (by decide) (fun s' hZ' => notFace_of_selects (args := #[]) (mvT hZ' (hw _ (List.mem_of_getElem? (i := 68) rfl)))) F306 (own_11_45 l Z a0 hw n0 h304 sz325 n303_b2 b228 n285_n1_n1_b2 (nar .byte ((nar .char ((i1 &&& (255 : Int32)).toUInt32.toUInt16.toUInt32.toInt32)).toInt8.toInt32)) (nar .byte ((nar .char ((i2 &&& (255 : Int32)).toUInt32.toUInt16.toUInt32.toInt32)).toInt8.toInt32)) (nar .byte ((nar .char ((i3 &&& (255 : Int32)).toUInt32.toUInt16.toUInt32.toInt32)).toInt8.toInt32)) cs F318 F321 F322 F323 F324 F306 F307 F308 F309 F310 F311 (Ne.symm ne313) (Ne.symm ne315) ne294 ge316 ge233 ge296 hcs) (w := 0) (by decide) (by decide) pd_6 rfl (rest := []) rfl rfl (Nat.le_of_eq rfl) (by decide) (by decide) at_164 ?_
    rintro _ _ ⟨rfl, rfl⟩
    show Wk _ p l e _ s m _ below meth c n0 _ h304 6 34 (mkF m 167 #[.val (.int i0), .val (.int i1), .val (.int i2), .val (.int i3), .val (.int ((i1 &&& (255 : Int32)).toUInt32.toUInt16.toUInt32.toInt32)), .val (.int ((i2 &&& (255 : Int32)).toUInt32.toUInt16.toUInt32.toInt32)), .val (.int ((i3 &&& (255 : Int32)).toUInt32.toUInt16.toUInt32.toInt32)), .val (.int (3 : Int32)), .val (.ref b228), .val (.ref n303_b2), .val (.ref b228)] [.null])
    refine Wk.st (g' := (mkF m 170 #[.val (.int i0), .val (.int i1), .val (.int i2), .val (.int i3), .val (.int ((i1 &&& (255 : Int32)).toUInt32.toUInt16.toUInt32.toInt32)), .val (.int ((i2 &&& (255 : Int32)).toUInt32.toUInt16.toUInt32.toInt32)), .val (.int ((i3 &&& (255 : Int32)).toUInt32.toUInt16.toUInt32.toInt32)), .val (.int (3 : Int32)), .val (.ref b228), .val (.ref n303_b2), .val (.ref b228)] [])) (fun X t q => XS.ifnonnullNo X.here C.hx rfl (hb C.hby at_167) rfl q) ?_
    refine Wk.st (g' := (mkF m 172 #[.val (.int i0), .val (.int i1), .val (.int i2), .val (.int i3), .val (.int ((i1 &&& (255 : Int32)).toUInt32.toUInt16.toUInt32.toInt32)), .val (.int ((i2 &&& (255 : Int32)).toUInt32.toUInt16.toUInt32.toInt32)), .val (.int ((i3 &&& (255 : Int32)).toUInt32.toUInt16.toUInt32.toInt32)), .val (.int (3 : Int32)), .val (.ref b228), .val (.ref n303_b2), .val (.ref b228)] [(.ref n303_b2)])) (fun X t q => XS.aload X.here C.hx rfl (hb C.hby at_170) rfl rfl q) ?_
    refine Wk.callV C (x := (⟨"com/example/escrow/escrow/LockRecord", "claim", "()Lcom/example/escrow/escrow/Claim;"⟩ : MethodName)) (z := (⟨"com/example/escrow/escrow/LockRecord", "claim", "()Lcom/example/escrow/escrow/Claim;"⟩ : MethodName)) (K := "com/example/escrow/escrow/LockRecord") (hw _ (List.mem_of_getElem? (i := 70) rfl)) (hw _ (List.mem_of_getElem? (i := 71) rfl)) (hw _ (List.mem_of_getElem? (i := 73) rfl)) (hw _ (List.mem_of_getElem? (i := 72) rfl)) (hw _ (List.mem_of_getElem? (i := 24) rfl)) (hw _ (List.mem_of_getElem? (i := 74) rfl)) (by decide) (fun s' hZ' => notFace_of_selects (args := #[]) (mvT hZ' (hw _ (List.mem_of_getElem? (i := 73) rfl)))) F306 (own_12_46 l Z a0 hw n0 h304 sz325 n303_b2 b228 n285_n1_n1_b2 (nar .byte ((nar .char ((i1 &&& (255 : Int32)).toUInt32.toUInt16.toUInt32.toInt32)).toInt8.toInt32)) (nar .byte ((nar .char ((i2 &&& (255 : Int32)).toUInt32.toUInt16.toUInt32.toInt32)).toInt8.toInt32)) (nar .byte ((nar .char ((i3 &&& (255 : Int32)).toUInt32.toUInt16.toUInt32.toInt32)).toInt8.toInt32)) cs F318 F321 F322 F323 F324 F306 F307 F308 F309 F310 F311 (Ne.symm ne313) (Ne.symm ne315) ne294 ge316 ge233 ge296 hcs) (w := 0) (by decide) (by decide) pd_9 rfl (rest := []) rfl rfl (Nat.le_of_eq rfl) (by decide) (by decide) at_172 ?_
    rintro _ _ ⟨rfl, rfl⟩
    show Wk _ p l e _ s m _ below meth c n0 _ h304 6 34 (mkF m 175 #[.val (.int i0), .val (.int i1), .val (.int i2), .val (.int i3), .val (.int ((i1 &&& (255 : Int32)).toUInt32.toUInt16.toUInt32.toInt32)), .val (.int ((i2 &&& (255 : Int32)).toUInt32.toUInt16.toUInt32.toInt32)), .val (.int ((i3 &&& (255 : Int32)).toUInt32.toUInt16.toUInt32.toInt32)), .val (.int (3 : Int32)), .val (.ref b228), .val (.ref n303_b2), .val (.ref b228)] [.null])
    refine Wk.st (g' := (mkF m 178 #[.val (.int i0), .val (.int i1), .val (.int i2), .val (.int i3), .val (.int ((i1 &&& (255 : Int32)).toUInt32.toUInt16.toUInt32.toInt32)), .val (.int ((i2 &&& (255 : Int32)).toUInt32.toUInt16.toUInt32.toInt32)), .val (.int ((i3 &&& (255 : Int32)).toUInt32.toUInt16.toUInt32.toInt32)), .val (.int (3 : Int32)), .val (.ref b228), .val (.ref n303_b2), .val (.ref b228)] [])) (fun X t q => XS.ifnonnullNo X.here C.hx rfl (hb C.hby at_175) rfl q) ?_
    refine Wk.st (g' := (mkF m 179 #[.val (.int i0), .val (.int i1), .val (.int i2), .val (.int i3), .val (.int ((i1 &&& (255 : Int32)).toUInt32.toUInt16.toUInt32.toInt32)), .val (.int ((i2 &&& (255 : Int32)).toUInt32.toUInt16.toUInt32.toInt32)), .val (.int ((i3 &&& (255 : Int32)).toUInt32.toUInt16.toUInt32.toInt32)), .val (.int (3 : Int32)), .val (.ref b228), .val (.ref n303_b2), .val (.ref b228)] [(.int (1 : Int32))])) (fun X t q => XS.iconst X.here C.hx rfl (hb C.hby at_178) q) ?_
    refine Wk.st (g' := (mkF m 183 #[.val (.int i0), .val (.int i1), .val (.int i2), .val (.int i3), .val (.int ((i1 &&& (255 : Int32)).toUInt32.toUInt16.toUInt32.toInt32)), .val (.int ((i2 &&& (255 : Int32)).toUInt32.toUInt16.toUInt32.toInt32)), .val (.int ((i3 &&& (255 : Int32)).toUInt32.toUInt16.toUInt32.toInt32)), .val (.int (3 : Int32)), .val (.ref b228), .val (.ref n303_b2), .val (.ref b228)] [(.int (1 : Int32))])) (fun X t q => XS.goto X.here C.hx rfl (pc0 := 179) (pc' := 183) rfl (hb C.hby at_179) (by decide) (by decide) q) ?_
    exact Wk.retV C (t := .boolean) rfl rfl (Or.inl ⟨rfl, by simp, _, rfl⟩) at_183 (by decide) (by decide) rfl
set_option maxRecDepth 65536 in
set_option maxHeartbeats 40000000 in
theorem comes_1 {Post : Tables → Env → Array Value → State → Outcome → State → Prop} (hpost : ∀ tb e args s v u, (limb_1_1.after args s (.returned v) u = true ∧ limb_1_2.after args s (.returned v) u = true ∧ True) → ReturnedEndW s (.returned v) u (Jvm.fieldLocs frame_1_writes args s ++ Jvm.arrayLocs frame_1_arrays args s ++ Jvm.staticLocs frame_1_statics s) 24 2176 → Post tb e args s (.returned v) u) :
    ArmFor flags0 classFile x code maxLocals ret World_1 tables_1 room_1 Calls_1 rest_1 Pre_1 Post := by
  intro l hfl _ _ p e ha hc hk s m args below hf hA hF happ hP
  obtain ⟨hcalls, hrest, hpre⟩ := hP
  obtain ⟨-, -, -, hnamed, -, -, -, hat⟩ := (Spec.applies_iff hf).mp happ
  obtain ⟨hg, hn⟩ := and_e (Cond.before_iff.mp (show (Jvm.Cond.and given_1 narrow_1).before args s = true from hpre))
  obtain ⟨hcount, g0⟩ := and_e hg
  obtain ⟨v0, v1, v2, v3, rfl⟩ : ∃ v0 v1 v2 v3 : Value, args = #[v0, v1, v2, v3] := by
    have hs : args.size = 4 := by simpa [Cond.value, given_1] using hcount
    obtain ⟨L⟩ := args
    match L, hs with
    | [v0, v1, v2, v3], _ => exact ⟨v0, v1, v2, v3, rfl⟩
  have hw := fun d (hd : d ∈ tables_1) => atoms_spec (ws := Jvm.Cond.code x code maxLocals ret :: tables_1) hat d (List.mem_cons_of_mem _ hd)
  have hfit : Fit s := fun {y c} hc i hi => by
    obtain ⟨ha, rfl⟩ := Array.getElem?_eq_some_iff.mp hc
    have q := List.all_eq_true.mp ((Array.all_eq_true_iff_forall_mem.mp hF) _ (Array.getElem_mem ha)) i (List.mem_range.mpr hi)
    simpa [Array.getElem?_eq_getElem hi] using q
  obtain ⟨e0, g1⟩ := and_e g0
  obtain ⟨i0, f0⟩ := is_v e0
  obtain rfl : v0 = (.int i0) := Option.some.inj f0
  obtain ⟨e1, g2⟩ := and_e g1
  obtain ⟨i1, f1⟩ := is_v e1
  obtain rfl : v1 = (.int i1) := Option.some.inj f1
  obtain ⟨e2, g3⟩ := and_e g2
  obtain ⟨i2, f2⟩ := is_v e2
  obtain rfl : v2 = (.int i2) := Option.some.inj f2
  obtain ⟨i3, f3⟩ := is_v g3
  obtain rfl : v3 = (.int i3) := Option.some.inj f3
  obtain ⟨hsets, hown0⟩ := atoms_of _ (rest_1_c_eq ▸ (show rest_1_c.before _ s = true from hrest))
  have n3 := not_v (Cond.before_iff.mp (hsets _ (List.mem_of_getElem? (i := 2) rfl)))
  obtain ⟨cs, ecs⟩ := is_v (Cond.before_iff.mp (hsets _ (List.mem_of_getElem? (i := 1) rfl)))
  have SC : Sta s s.heap "java/lang/String" "COMPACT_STRINGS" "Z" (.int cs) := Sta.start ecs (Or.inl (hsets _ (List.mem_of_getElem? (i := 0) rfl)))
  have hcs : ¬ cs = (0 : Int32) := gotF (Cond.eq_ints ecs (Term.int_eval 0)) n3
  have hh : Jvm.Lit.constHeld s "java/lang/String" 7 := hcalls.1 ("java/lang/String", 7) (by simp [consts_1])
  obtain ⟨n, o, h1, h2, h3, _, L, _, rfl, ⟨rfl, N⟩, -, hq⟩ := law_met l s _ hw s.heap.size s.heap (Nat.le_refl _) i0 i1 i2 i3 cs SC hcs hh (hsets _ (List.mem_of_getElem? (i := 2) rfl)) (fun _ _ q => q) tables_1 p e ha hc hk s m _ below hf ((Spec.applies_iff_loose hf).mp happ).1 ⟨rfl, State.Warmed39.refl s, rfl, IB.start⟩ trivial
  refine ⟨n, _, h1, h2, h3, hpost _ _ _ _ _ _ ⟨Cond.after_iff.mpr rfl, Cond.after_iff.mpr (eq_i res_at (Term.int_eval (1)) rfl), trivial⟩ ⟨hq.1, hq.2.1, hq.2.2.1, (hq.2.2.2.sift fun y hy => Or.inr (N y hy)).mono (by decide) (by decide)⟩⟩
theorem main_1_1 : Claimed_1_1 := comes_1 fun _ _ _ _ _ _ h hF => ⟨h.1, hF⟩
theorem main_1_2 : Claimed_1_2 := comes_1 fun _ _ _ _ _ _ h hF => ⟨h.2.1, hF⟩
end Jvm.Pilot.@@N@@
namespace Jvm.Pilot.@@N@@
open Jvm Jvm.ClassFile Sem Op Lib Jvm.Free Jvm.Stand Jvm.Pilot.@@N@@.Jvm.D
/-! MADE BY PROGRAM (witnessworld.py) out of the Statement's table words and the real class files: 23 classes; the members and pool entries that the words name. The judged class is class 1, her method 1. -/
namespace start1
open Jvm.ClassFile
def u (s : String) : CpInfo := .utf8 (stringToUtf16 s)
/-- a pool by its gaps: so many unusable entries, then the entry; so many at the end -/
def gap : Nat → List CpInfo → List CpInfo
  | 0, r => r
  | n + 1, r => .unusable :: gap n r
def poolList (es : List (Nat × CpInfo)) (last : Nat) : List CpInfo := es.foldr (fun e r => gap e.1 (e.2 :: r)) (gap last [])
def pool (es : List (Nat × CpInfo)) (last : Nat) : Array CpInfo := ⟨poolList es last⟩
def fileOf (pool : Array CpInfo) (this : Nat) (attrs : Array Attribute := #[]) (ms : Array MethodInfo := #[]) (fl : Nat := 33) (sup : Nat := 0) (ifs : Array Nat := #[]) (fds : Array FieldInfo := #[]) : ClassFile where
  minorVersion := 0
  majorVersion := 65
  constantPool := pool
  accessFlags := fl
  thisClass := this
  superClass := sup
  interfaces := ifs
  fields := fds
  methods := ms
  attributes := attrs
def plain (name : String) (sup : Option ClassId) : Class where
  name := name
  kind := .ordinary
  loader := none
  accessFlags := 33
  super := sup
  interfaces := #[]
  cf := none
  fields := #[]
  methods := #[]
  instanceTypes := #[]
  staticTypes := #[]
  resolved := #[]
  callSites := []
  init := .initialized
  statics := none
  mirror := none

def pool0 : Array CpInfo := pool [(5, u "<init>"), (0, u "()V"), (1, .class_ 10), (1, u "java/lang/Object")] 113

def k0c0 : Code := { maxStack := 0, maxLocals := 1, code := object_method_1_code, exceptionTable := #[], attributes := #[] }
def k0m0 : Method := { name := "<init>", desc := "()V", sig := { parameters := [], returnType := none }, accessFlags := 1, code := some k0c0 }
/-- java/lang/Object -/
def k0 : Class := { plain "java/lang/Object" none with
  accessFlags := 33
  interfaces := #[]
  cf := some (fileOf pool0 8 #[] #[{ accessFlags := 1, nameIndex := 5, descriptorIndex := 6, attributes := #[] }] 33 0 #[] #[])
  fields := #[]
  methods := #[k0m0]
  instanceTypes := #[]
  staticTypes := #[]
  resolved := Array.replicate 124 none
  statics := none }

def pool1 : Array CpInfo := pool [(2, .class_ 4), (1, u "java/lang/Object"), (0, u "<init>"), (0, u "()V"), (0, .class_ 8), (0, u "java/lang/String"), (0, .methodref 7 10), (0, .nameAndType 5 11), (0, u "([C)V"), (0, .methodref 7 13), (0, .nameAndType 14 15), (0, u "valueOf"), (0, u "(C)Ljava/lang/String;"), (0, .methodref 17 18), (0, .class_ 19), (0, .nameAndType 20 21), (0, u "com/example/escrow/escrow/LockRecord"), (0, u "untaken"), (0, u "(Ljava/lang/String;)Lcom/example/escrow/escrow/LockRecord;"), (0, .methodref 17 23), (0, .nameAndType 24 25), (0, u "name"), (0, u "()Ljava/lang/String;"), (0, .methodref 7 27), (0, .nameAndType 28 29), (0, u "equals"), (0, u "(Ljava/lang/Object;)Z"), (0, .methodref 17 31), (0, .nameAndType 32 33), (0, u "token"), (0, u "()J"), (0, .methodref 17 35), (0, .nameAndType 36 25), (0, u "owner"), (0, .methodref 17 38), (0, .nameAndType 39 40), (0, u "claim"), (0, u "()Lcom/example/escrow/escrow/Claim;"), (0, .class_ 42), (0, u "com/example/escrow/escrow/LockRecordUntakenPinLaw"), (2, u "law"), (0, u "(IIII)Z")] 3

def k1m0 : Method := { name := "<init>", desc := "()V", sig := { parameters := [], returnType := none }, accessFlags := 1, code := none }
def k1c1 : Code := { maxStack := 6, maxLocals := 11, code := code, exceptionTable := #[], attributes := #[] }
def k1m1 : Method := { name := "law", desc := "(IIII)Z", sig := { parameters := [.int, .int, .int, .int], returnType := some .boolean }, accessFlags := 9, code := some k1c1 }
/-- com/example/escrow/escrow/LockRecordUntakenPinLaw -/
def k1 : Class := { plain "com/example/escrow/escrow/LockRecordUntakenPinLaw" (some 0) with
  accessFlags := 49
  interfaces := #[]
  cf := some (fileOf pool1 41 #[] #[{ accessFlags := 1, nameIndex := 5, descriptorIndex := 6, attributes := #[] }, { accessFlags := 9, nameIndex := 45, descriptorIndex := 46, attributes := #[] }] 49 2 #[] #[])
  fields := #[]
  methods := #[k1m0, k1m1]
  instanceTypes := #[]
  staticTypes := #[]
  resolved := Array.replicate 50 none
  statics := none }

def pool2 : Array CpInfo := pool [(1, .class_ 2), (0, u "java/io/Serializable"), (0, .class_ 4), (0, u "java/lang/Object")] 2

/-- java/io/Serializable -/
def k2 : Class := { plain "java/io/Serializable" (some 0) with
  accessFlags := 1537
  interfaces := #[]
  cf := some (fileOf pool2 1 #[] #[] 1537 3 #[] #[])
  fields := #[]
  methods := #[]
  instanceTypes := #[]
  staticTypes := #[]
  resolved := Array.replicate 7 none
  statics := none }

def pool3 : Array CpInfo := pool [(1, .class_ 2), (0, u "java/lang/Comparable"), (0, .class_ 4), (0, u "java/lang/Object")] 7

/-- java/lang/Comparable -/
def k3 : Class := { plain "java/lang/Comparable" (some 0) with
  accessFlags := 1537
  interfaces := #[]
  cf := some (fileOf pool3 1 #[] #[] 1537 3 #[] #[])
  fields := #[]
  methods := #[]
  instanceTypes := #[]
  staticTypes := #[]
  resolved := Array.replicate 12 none
  statics := none }

def pool4 : Array CpInfo := pool [(2, .class_ 4), (1, u "java/lang/CharSequence"), (42, .class_ 48), (0, u "java/lang/CharSequence$1CodePointIterator"), (10, .class_ 60), (0, u "java/lang/CharSequence$1CharIterator"), (5, .class_ 67), (0, u "java/lang/Object")] 63

/-- java/lang/CharSequence -/
def k4 : Class := { plain "java/lang/CharSequence" (some 0) with
  accessFlags := 1537
  interfaces := #[]
  cf := some (fileOf pool4 2 #[.nestMembers #[47, 59]] #[] 1537 66 #[] #[])
  fields := #[]
  methods := #[]
  instanceTypes := #[]
  staticTypes := #[]
  resolved := Array.replicate 131 none
  statics := none }

def pool5 : Array CpInfo := pool [(1, .class_ 2), (0, u "java/lang/constant/Constable"), (0, .class_ 4), (0, u "java/lang/Object")] 6

/-- java/lang/constant/Constable -/
def k5 : Class := { plain "java/lang/constant/Constable" (some 0) with
  accessFlags := 1537
  interfaces := #[]
  cf := some (fileOf pool5 1 #[] #[] 1537 3 #[] #[])
  fields := #[]
  methods := #[]
  instanceTypes := #[]
  staticTypes := #[]
  resolved := Array.replicate 11 none
  statics := none }

def pool6 : Array CpInfo := pool [(1, .class_ 2), (0, u "java/lang/constant/ConstantDesc"), (0, .class_ 4), (0, u "java/lang/Object")] 32

/-- java/lang/constant/ConstantDesc -/
def k6 : Class := { plain "java/lang/constant/ConstantDesc" (some 0) with
  accessFlags := 1537
  interfaces := #[]
  cf := some (fileOf pool6 1 #[] #[] 1537 3 #[] #[])
  fields := #[]
  methods := #[]
  instanceTypes := #[]
  staticTypes := #[]
  resolved := Array.replicate 37 none
  statics := none }

def pool7 : Array CpInfo := pool [(1, .methodref 2 3), (0, .class_ 4), (0, .nameAndType 5 6), (0, u "java/lang/Object"), (0, u "<init>"), (0, u "()V"), (0, .string 8), (0, u ""), (0, .fieldref 10 11), (0, .class_ 12), (0, .nameAndType 13 14), (0, u "java/lang/String"), (0, u "value"), (0, u "[B"), (0, .fieldref 10 16), (0, .nameAndType 17 18), (0, u "coder"), (0, u "B"), (2, u "hash"), (0, u "I"), (2, u "hashIsZero"), (0, u "Z"), (0, .methodref 10 28), (0, .nameAndType 5 29), (0, u "([CIILjava/lang/Void;)V"), (8, .fieldref 10 39), (0, .nameAndType 40 26), (0, u "COMPACT_STRINGS"), (1, .class_ 44), (1, u "java/lang/StringUTF16"), (0, u "compress"), (1, .methodref 42 48), (0, .nameAndType 49 50), (0, u "coderFromArrayLen"), (0, u "([BI)B"), (2, u "toBytes"), (53, .class_ 109), (1, u "java/lang/StringLatin1"), (67, .methodref 42 178), (0, .nameAndType 45 179), (0, u "([CII)[B"), (29, .methodref 10 210), (0, .nameAndType 5 211), (0, u "([BB)V"), (157, u "(C)Z"), (173, u "equals"), (29, u "(Ljava/lang/Object;)Z"), (1, .class_ 576), (0, u "java/lang/CharSequence"), (22, u "CASE_INSENSITIVE_ORDER"), (0, u "Ljava/util/Comparator;"), (181, u "valueOf"), (0, u "(C)Ljava/lang/String;"), (226, u "([C)V"), (4, .methodref 107 1016), (0, .nameAndType 1017 369), (0, u "canEncode"), (0, .methodref 107 1019), (0, .nameAndType 53 1020), (0, u "(C)[B"), (80, u "serialPersistentFields"), (0, u "[Ljava/io/ObjectStreamField;"), (0, .class_ 1104), (0, u "java/lang/String$CaseInsensitiveComparator"), (1, .class_ 1107), (0, u "java/io/Serializable"), (0, .class_ 1109), (0, u "java/lang/Comparable"), (0, .class_ 1111), (0, u "java/lang/constant/Constable"), (0, .class_ 1113), (0, u "java/lang/constant/ConstantDesc"), (2, u "serialVersionUID"), (0, u "J"), (3, u "REPL"), (0, u "C"), (2, u "LATIN1"), (1, u "UTF16")] 323

def k7m0 : Method := { name := "<init>", desc := "()V", sig := { parameters := [], returnType := none }, accessFlags := 1, code := none }
def k7c1 : Code := { maxStack := 5, maxLocals := 2, code := jdk_42_method_3_code, exceptionTable := #[], attributes := #[] }
def k7m1 : Method := { name := "<init>", desc := "([C)V", sig := { parameters := [(.array .char)], returnType := none }, accessFlags := 1, code := some k7c1 }
def k7c2 : Code := { maxStack := 2, maxLocals := 3, code := jdk_42_method_66_code, exceptionTable := #[], attributes := #[] }
def k7m2 : Method := { name := "equals", desc := "(Ljava/lang/Object;)Z", sig := { parameters := [(.object "java/lang/Object")], returnType := some .boolean }, accessFlags := 1, code := some k7c2 }
def k7c3 : Code := { maxStack := 4, maxLocals := 1, code := jdk_42_method_139_code, exceptionTable := #[], attributes := #[] }
def k7m3 : Method := { name := "valueOf", desc := "(C)Ljava/lang/String;", sig := { parameters := [.char], returnType := some (.object "java/lang/String") }, accessFlags := 9, code := some k7c3 }
def k7c4 : Code := { maxStack := 4, maxLocals := 6, code := jdk_42_method_149_code, exceptionTable := #[], attributes := #[] }
def k7m4 : Method := { name := "<init>", desc := "([CIILjava/lang/Void;)V", sig := { parameters := [(.array .char), .int, .int, (.object "java/lang/Void")], returnType := none }, accessFlags := 2, code := some k7c4 }
def k7c5 : Code := { maxStack := 2, maxLocals := 3, code := jdk_42_method_151_code, exceptionTable := #[], attributes := #[] }
def k7m5 : Method := { name := "<init>", desc := "([BB)V", sig := { parameters := [(.array .byte), .byte], returnType := none }, accessFlags := 0, code := some k7c5 }
/-- java/lang/String -/
def k7 : Class := { plain "java/lang/String" (some 0) with
  accessFlags := 49
  interfaces := #[2, 3, 4, 5, 6]
  cf := some (fileOf pool7 10 #[.nestMembers #[1103]] #[{ accessFlags := 1, nameIndex := 5, descriptorIndex := 6, attributes := #[] }, { accessFlags := 1, nameIndex := 5, descriptorIndex := 1010, attributes := #[] }, { accessFlags := 1, nameIndex := 543, descriptorIndex := 573, attributes := #[] }, { accessFlags := 9, nameIndex := 782, descriptorIndex := 783, attributes := #[] }, { accessFlags := 2, nameIndex := 5, descriptorIndex := 29, attributes := #[] }, { accessFlags := 0, nameIndex := 5, descriptorIndex := 211, attributes := #[] }] 49 2 #[1106, 1108, 575, 1110, 1112] #[{ accessFlags := 18, nameIndex := 13, descriptorIndex := 14, attributes := #[] }, { accessFlags := 18, nameIndex := 17, descriptorIndex := 18, attributes := #[] }, { accessFlags := 2, nameIndex := 21, descriptorIndex := 22, attributes := #[] }, { accessFlags := 2, nameIndex := 25, descriptorIndex := 26, attributes := #[] }, { accessFlags := 26, nameIndex := 1116, descriptorIndex := 1117, attributes := #[] }, { accessFlags := 24, nameIndex := 40, descriptorIndex := 26, attributes := #[] }, { accessFlags := 26, nameIndex := 1101, descriptorIndex := 1102, attributes := #[] }, { accessFlags := 26, nameIndex := 1121, descriptorIndex := 1122, attributes := #[] }, { accessFlags := 25, nameIndex := 599, descriptorIndex := 600, attributes := #[] }, { accessFlags := 24, nameIndex := 1125, descriptorIndex := 18, attributes := #[] }, { accessFlags := 24, nameIndex := 1127, descriptorIndex := 18, attributes := #[] }])
  fields := #[{ name := "value", type := (.array .byte), accessFlags := 18, slot := 0, constantValue := 0 }, { name := "coder", type := .byte, accessFlags := 18, slot := 1, constantValue := 0 }, { name := "hash", type := .int, accessFlags := 2, slot := 2, constantValue := 0 }, { name := "hashIsZero", type := .boolean, accessFlags := 2, slot := 3, constantValue := 0 }, { name := "serialVersionUID", type := .long, accessFlags := 26, slot := 0, constantValue := 0 }, { name := "COMPACT_STRINGS", type := .boolean, accessFlags := 24, slot := 1, constantValue := 0 }, { name := "serialPersistentFields", type := (.array (.object "java/io/ObjectStreamField")), accessFlags := 26, slot := 2, constantValue := 0 }, { name := "REPL", type := .char, accessFlags := 26, slot := 3, constantValue := 0 }, { name := "CASE_INSENSITIVE_ORDER", type := (.object "java/util/Comparator"), accessFlags := 25, slot := 4, constantValue := 0 }, { name := "LATIN1", type := .byte, accessFlags := 24, slot := 5, constantValue := 0 }, { name := "UTF16", type := .byte, accessFlags := 24, slot := 6, constantValue := 0 }]
  methods := #[k7m0, k7m1, k7m2, k7m3, k7m4, k7m5]
  instanceTypes := #[(.array .byte), .byte, .int, .boolean]
  staticTypes := #[.long, .boolean, (.array (.object "java/io/ObjectStreamField")), .char, (.object "java/util/Comparator"), .byte, .byte]
  resolved := Array.replicate 1451 none
  statics := some 0 }

def pool8 : Array CpInfo := pool [(1, .methodref 2 3), (0, .class_ 4), (0, .nameAndType 5 6), (0, u "java/lang/Object"), (0, u "<init>"), (0, u "()V"), (0, .class_ 8), (0, u "java/lang/Record")] 13

def k8c0 : Code := { maxStack := 1, maxLocals := 1, code := jdk_30_method_1_code, exceptionTable := #[], attributes := #[] }
def k8m0 : Method := { name := "<init>", desc := "()V", sig := { parameters := [], returnType := none }, accessFlags := 4, code := some k8c0 }
/-- java/lang/Record -/
def k8 : Class := { plain "java/lang/Record" (some 0) with
  accessFlags := 1057
  interfaces := #[]
  cf := some (fileOf pool8 7 #[] #[{ accessFlags := 4, nameIndex := 5, descriptorIndex := 6, attributes := #[] }] 1057 2 #[] #[])
  fields := #[]
  methods := #[k8m0]
  instanceTypes := #[]
  staticTypes := #[]
  resolved := Array.replicate 22 none
  statics := none }

def pool9 : Array CpInfo := pool [(1, .class_ 2), (0, u "com/example/escrow/escrow/ClaimedRecord"), (0, .class_ 4), (0, u "java/lang/Object")] 18

/-- com/example/escrow/escrow/ClaimedRecord -/
def k9 : Class := { plain "com/example/escrow/escrow/ClaimedRecord" (some 0) with
  accessFlags := 1536
  interfaces := #[]
  cf := some (fileOf pool9 1 #[] #[] 1536 3 #[] #[])
  fields := #[]
  methods := #[]
  instanceTypes := #[]
  staticTypes := #[]
  resolved := Array.replicate 23 none
  statics := none }

def pool10 : Array CpInfo := pool [(1, .methodref 2 3), (0, .class_ 4), (0, .nameAndType 5 6), (0, u "java/lang/Record"), (0, u "<init>"), (0, u "()V"), (0, .string 8), (0, u "name"), (0, .methodref 10 11), (0, .class_ 12), (0, .nameAndType 13 14), (0, u "java/util/Objects"), (0, u "requireNonNull"), (0, u "(Ljava/lang/Object;Ljava/lang/String;)Ljava/lang/Object;"), (0, .fieldref 16 17), (0, .class_ 18), (0, .nameAndType 8 19), (0, u "com/example/escrow/escrow/LockRecord"), (0, u "Ljava/lang/String;"), (0, .fieldref 16 21), (0, .nameAndType 22 23), (0, u "token"), (0, u "J"), (0, .fieldref 16 25), (0, .nameAndType 26 19), (0, u "owner"), (0, .fieldref 16 28), (0, .nameAndType 29 30), (0, u "claim"), (0, u "Lcom/example/escrow/escrow/Claim;"), (0, .methodref 16 32), (0, .nameAndType 5 33), (0, u "(Ljava/lang/String;JLjava/lang/String;Lcom/example/escrow/escrow/Claim;)V"), (84, u "()J"), (56, u "FIELD_TYPES"), (0, u "Ljava/util/Map;"), (0, .class_ 178), (0, u "com/example/escrow/escrow/ClaimedRecord"), (0, u "TOKEN"), (1, u "OWNER"), (5, u "untaken"), (0, u "(Ljava/lang/String;)Lcom/example/escrow/escrow/LockRecord;"), (19, u "()Ljava/lang/String;"), (2, u "()Lcom/example/escrow/escrow/Claim;")] 52

def k10c0 : Code := { maxStack := 3, maxLocals := 6, code := prog_25_method_1_code, exceptionTable := #[], attributes := #[] }
def k10m0 : Method := { name := "<init>", desc := "(Ljava/lang/String;JLjava/lang/String;Lcom/example/escrow/escrow/Claim;)V", sig := { parameters := [(.object "java/lang/String"), .long, (.object "java/lang/String"), (.object "com/example/escrow/escrow/Claim")], returnType := none }, accessFlags := 0, code := some k10c0 }
def k10c1 : Code := { maxStack := 7, maxLocals := 1, code := prog_25_method_2_code, exceptionTable := #[], attributes := #[] }
def k10m1 : Method := { name := "untaken", desc := "(Ljava/lang/String;)Lcom/example/escrow/escrow/LockRecord;", sig := { parameters := [(.object "java/lang/String")], returnType := some (.object "com/example/escrow/escrow/LockRecord") }, accessFlags := 8, code := some k10c1 }
def k10c2 : Code := { maxStack := 1, maxLocals := 1, code := prog_25_method_16_code, exceptionTable := #[], attributes := #[] }
def k10m2 : Method := { name := "name", desc := "()Ljava/lang/String;", sig := { parameters := [], returnType := some (.object "java/lang/String") }, accessFlags := 1, code := some k10c2 }
def k10c3 : Code := { maxStack := 2, maxLocals := 1, code := prog_25_method_17_code, exceptionTable := #[], attributes := #[] }
def k10m3 : Method := { name := "token", desc := "()J", sig := { parameters := [], returnType := some .long }, accessFlags := 1, code := some k10c3 }
def k10c4 : Code := { maxStack := 1, maxLocals := 1, code := prog_25_method_18_code, exceptionTable := #[], attributes := #[] }
def k10m4 : Method := { name := "owner", desc := "()Ljava/lang/String;", sig := { parameters := [], returnType := some (.object "java/lang/String") }, accessFlags := 1, code := some k10c4 }
def k10c5 : Code := { maxStack := 1, maxLocals := 1, code := prog_25_method_19_code, exceptionTable := #[], attributes := #[] }
def k10m5 : Method := { name := "claim", desc := "()Lcom/example/escrow/escrow/Claim;", sig := { parameters := [], returnType := some (.object "com/example/escrow/escrow/Claim") }, accessFlags := 1, code := some k10c5 }
/-- com/example/escrow/escrow/LockRecord -/
def k10 : Class := { plain "com/example/escrow/escrow/LockRecord" (some 8) with
  accessFlags := 48
  interfaces := #[9]
  cf := some (fileOf pool10 16 #[] #[{ accessFlags := 0, nameIndex := 5, descriptorIndex := 33, attributes := #[] }, { accessFlags := 8, nameIndex := 187, descriptorIndex := 188, attributes := #[] }, { accessFlags := 1, nameIndex := 8, descriptorIndex := 208, attributes := #[] }, { accessFlags := 1, nameIndex := 22, descriptorIndex := 118, attributes := #[] }, { accessFlags := 1, nameIndex := 26, descriptorIndex := 208, attributes := #[] }, { accessFlags := 1, nameIndex := 29, descriptorIndex := 211, attributes := #[] }] 48 2 #[177] #[{ accessFlags := 18, nameIndex := 8, descriptorIndex := 19, attributes := #[] }, { accessFlags := 18, nameIndex := 22, descriptorIndex := 23, attributes := #[] }, { accessFlags := 18, nameIndex := 26, descriptorIndex := 19, attributes := #[] }, { accessFlags := 18, nameIndex := 29, descriptorIndex := 30, attributes := #[] }, { accessFlags := 26, nameIndex := 179, descriptorIndex := 19, attributes := #[] }, { accessFlags := 26, nameIndex := 181, descriptorIndex := 19, attributes := #[] }, { accessFlags := 24, nameIndex := 175, descriptorIndex := 176, attributes := #[] }])
  fields := #[{ name := "name", type := (.object "java/lang/String"), accessFlags := 18, slot := 0, constantValue := 0 }, { name := "token", type := .long, accessFlags := 18, slot := 1, constantValue := 0 }, { name := "owner", type := (.object "java/lang/String"), accessFlags := 18, slot := 2, constantValue := 0 }, { name := "claim", type := (.object "com/example/escrow/escrow/Claim"), accessFlags := 18, slot := 3, constantValue := 0 }, { name := "TOKEN", type := (.object "java/lang/String"), accessFlags := 26, slot := 0, constantValue := 0 }, { name := "OWNER", type := (.object "java/lang/String"), accessFlags := 26, slot := 1, constantValue := 0 }, { name := "FIELD_TYPES", type := (.object "java/util/Map"), accessFlags := 24, slot := 2, constantValue := 0 }]
  methods := #[k10m0, k10m1, k10m2, k10m3, k10m4, k10m5]
  instanceTypes := #[(.object "java/lang/String"), .long, (.object "java/lang/String"), (.object "com/example/escrow/escrow/Claim")]
  staticTypes := #[(.object "java/lang/String"), (.object "java/lang/String"), (.object "java/util/Map")]
  resolved := Array.replicate 264 none
  statics := none }

def pool11 : Array CpInfo := pool [(2, .class_ 4), (1, u "java/lang/Object"), (0, u "<init>"), (0, u "()V"), (35, .class_ 44), (1, u "java/util/Objects"), (0, u "requireNonNull"), (48, u "(Ljava/lang/Object;Ljava/lang/String;)Ljava/lang/Object;")] 89

def k11m0 : Method := { name := "<init>", desc := "()V", sig := { parameters := [], returnType := none }, accessFlags := 2, code := none }
def k11c1 : Code := { maxStack := 3, maxLocals := 2, code := jdk_31_method_11_code, exceptionTable := #[], attributes := #[] }
def k11m1 : Method := { name := "requireNonNull", desc := "(Ljava/lang/Object;Ljava/lang/String;)Ljava/lang/Object;", sig := { parameters := [(.object "java/lang/Object"), (.object "java/lang/String")], returnType := some (.object "java/lang/Object") }, accessFlags := 9, code := some k11c1 }
/-- java/util/Objects -/
def k11 : Class := { plain "java/util/Objects" (some 0) with
  accessFlags := 49
  interfaces := #[]
  cf := some (fileOf pool11 42 #[] #[{ accessFlags := 2, nameIndex := 5, descriptorIndex := 6, attributes := #[] }, { accessFlags := 9, nameIndex := 45, descriptorIndex := 94, attributes := #[] }] 49 2 #[] #[])
  fields := #[]
  methods := #[k11m0, k11m1]
  instanceTypes := #[]
  staticTypes := #[]
  resolved := Array.replicate 184 none
  statics := none }

def pool12 : Array CpInfo := pool [(6, .class_ 8), (1, u "java/lang/Object"), (0, u "<init>"), (0, u "()V"), (1, .class_ 14), (1, u "java/lang/StringUTF16"), (31, u "$assertionsDisabled"), (0, u "Z"), (13, u "HI_BYTE_SHIFT"), (0, u "I"), (2, u "LO_BYTE_SHIFT"), (49, .methodref 12 116), (0, .nameAndType 117 118), (0, u "compress"), (0, u "([CI[BII)I"), (3, u "([CII)[B"), (138, u "coderFromArrayLen"), (0, u "([BI)B"), (106, .class_ 371), (1, u "java/lang/StringUTF16$LinesSpliterator"), (58, u "MAX_LENGTH"), (196, .class_ 628), (0, u "java/lang/StringUTF16$CodePointsSpliterator"), (0, .class_ 630), (0, u "java/lang/StringUTF16$CharsSpliterator")] 4

def k12m0 : Method := { name := "<init>", desc := "()V", sig := { parameters := [], returnType := none }, accessFlags := 0, code := none }
def k12c1 : Code := { maxStack := 2, maxLocals := 2, code := jdk_52_method_15_code, exceptionTable := #[], attributes := #[] }
def k12m1 : Method := { name := "coderFromArrayLen", desc := "([BI)B", sig := { parameters := [(.array .byte), .int], returnType := some .byte }, accessFlags := 8, code := some k12c1 }
def k12c2 : Code := { maxStack := 5, maxLocals := 6, code := jdk_52_method_16_code, exceptionTable := #[], attributes := #[] }
def k12m2 : Method := { name := "compress", desc := "([CII)[B", sig := { parameters := [(.array .char), .int, .int], returnType := some (.array .byte) }, accessFlags := 9, code := some k12c2 }
def k12c3 : Code := { maxStack := 3, maxLocals := 7, code := jdk_52_method_21_code, exceptionTable := #[], attributes := #[] }
def k12m3 : Method := { name := "compress", desc := "([CI[BII)I", sig := { parameters := [(.array .char), .int, (.array .byte), .int, .int], returnType := some .int }, accessFlags := 9, code := some k12c3 }
/-- java/lang/StringUTF16 -/
def k12 : Class := { plain "java/lang/StringUTF16" (some 0) with
  accessFlags := 48
  interfaces := #[]
  cf := some (fileOf pool12 12 #[.nestMembers #[627, 629, 369]] #[{ accessFlags := 0, nameIndex := 9, descriptorIndex := 10, attributes := #[] }, { accessFlags := 8, nameIndex := 261, descriptorIndex := 262, attributes := #[] }, { accessFlags := 9, nameIndex := 117, descriptorIndex := 122, attributes := #[] }, { accessFlags := 9, nameIndex := 117, descriptorIndex := 118, attributes := #[] }] 48 6 #[] #[{ accessFlags := 26, nameIndex := 61, descriptorIndex := 62, attributes := #[] }, { accessFlags := 26, nameIndex := 65, descriptorIndex := 62, attributes := #[] }, { accessFlags := 24, nameIndex := 430, descriptorIndex := 62, attributes := #[] }, { accessFlags := 4120, nameIndex := 46, descriptorIndex := 47, attributes := #[] }])
  fields := #[{ name := "HI_BYTE_SHIFT", type := .int, accessFlags := 26, slot := 0, constantValue := 0 }, { name := "LO_BYTE_SHIFT", type := .int, accessFlags := 26, slot := 1, constantValue := 0 }, { name := "MAX_LENGTH", type := .int, accessFlags := 24, slot := 2, constantValue := 0 }, { name := "$assertionsDisabled", type := .boolean, accessFlags := 4120, slot := 3, constantValue := 0 }]
  methods := #[k12m0, k12m1, k12m2, k12m3]
  instanceTypes := #[]
  staticTypes := #[.int, .int, .int, .boolean]
  resolved := Array.replicate 635 none
  statics := none }

def pool13 : Array CpInfo := pool [(4, .class_ 6), (1, u "java/lang/Object"), (0, u "<init>"), (0, u "()V"), (5, .class_ 16), (1, u "java/lang/StringLatin1"), (73, u "canEncode"), (14, u "(C)Z"), (15, u "$assertionsDisabled"), (0, u "Z"), (98, .class_ 223), (1, u "java/lang/StringLatin1$LinesSpliterator"), (156, u "toBytes"), (1, u "(C)[B"), (7, .class_ 391), (0, u "java/lang/StringLatin1$CharsSpliterator")] 3

def k13m0 : Method := { name := "<init>", desc := "()V", sig := { parameters := [], returnType := none }, accessFlags := 0, code := none }
def k13c1 : Code := { maxStack := 2, maxLocals := 1, code := jdk_43_method_3_code, exceptionTable := #[], attributes := #[] }
def k13m1 : Method := { name := "canEncode", desc := "(C)Z", sig := { parameters := [.char], returnType := some .boolean }, accessFlags := 9, code := some k13c1 }
def k13c2 : Code := { maxStack := 4, maxLocals := 1, code := jdk_43_method_46_code, exceptionTable := #[], attributes := #[] }
def k13m2 : Method := { name := "toBytes", desc := "(C)[B", sig := { parameters := [.char], returnType := some (.array .byte) }, accessFlags := 9, code := some k13c2 }
/-- java/lang/StringLatin1 -/
def k13 : Class := { plain "java/lang/StringLatin1" (some 0) with
  accessFlags := 48
  interfaces := #[]
  cf := some (fileOf pool13 14 #[.nestMembers #[390, 221]] #[{ accessFlags := 0, nameIndex := 7, descriptorIndex := 8, attributes := #[] }, { accessFlags := 9, nameIndex := 90, descriptorIndex := 105, attributes := #[] }, { accessFlags := 9, nameIndex := 380, descriptorIndex := 382, attributes := #[] }] 48 4 #[] #[{ accessFlags := 4120, nameIndex := 121, descriptorIndex := 122, attributes := #[] }])
  fields := #[{ name := "$assertionsDisabled", type := .boolean, accessFlags := 4120, slot := 0, constantValue := 0 }]
  methods := #[k13m0, k13m1, k13m2]
  instanceTypes := #[]
  staticTypes := #[.boolean]
  resolved := Array.replicate 395 none
  statics := none }

def pool14 : Array CpInfo := pool [(2, .class_ 4), (1, u "java/lang/Object"), (0, u "<init>"), (0, u "()V"), (17, .class_ 26), (1, u "jdk/internal/util/Preconditions"), (28, .class_ 56), (0, u "jdk/internal/util/Preconditions$4"), (57, .class_ 115), (0, u "jdk/internal/util/Preconditions$1"), (7, u "SIOOBE_FORMATTER"), (0, u "Ljava/util/function/BiFunction;"), (0, .class_ 126), (0, u "jdk/internal/util/Preconditions$2"), (3, u "AIOOBE_FORMATTER"), (0, .class_ 132), (0, u "jdk/internal/util/Preconditions$3"), (3, u "IOOBE_FORMATTER")] 57

def k14m0 : Method := { name := "<init>", desc := "()V", sig := { parameters := [], returnType := none }, accessFlags := 1, code := none }
/-- jdk/internal/util/Preconditions -/
def k14 : Class := { plain "jdk/internal/util/Preconditions" (some 0) with
  accessFlags := 33
  interfaces := #[]
  cf := some (fileOf pool14 24 #[.nestMembers #[55, 131, 125, 114]] #[{ accessFlags := 1, nameIndex := 5, descriptorIndex := 6, attributes := #[] }] 33 2 #[] #[{ accessFlags := 25, nameIndex := 123, descriptorIndex := 124, attributes := #[] }, { accessFlags := 25, nameIndex := 130, descriptorIndex := 124, attributes := #[] }, { accessFlags := 25, nameIndex := 136, descriptorIndex := 124, attributes := #[] }])
  fields := #[{ name := "SIOOBE_FORMATTER", type := (.object "java/util/function/BiFunction"), accessFlags := 25, slot := 0, constantValue := 0 }, { name := "AIOOBE_FORMATTER", type := (.object "java/util/function/BiFunction"), accessFlags := 25, slot := 1, constantValue := 0 }, { name := "IOOBE_FORMATTER", type := (.object "java/util/function/BiFunction"), accessFlags := 25, slot := 2, constantValue := 0 }]
  methods := #[k14m0]
  instanceTypes := #[]
  staticTypes := #[(.object "java/util/function/BiFunction"), (.object "java/util/function/BiFunction"), (.object "java/util/function/BiFunction")]
  resolved := Array.replicate 194 none
  statics := some 1 }

def pool15 : Array CpInfo := pool [(9, u "<init>"), (6, .class_ 18), (1, u "java/lang/Object"), (0, u "()V"), (1, .class_ 23), (1, u "jdk/internal/util/ArraysSupport"), (0, u "LOG2_ARRAY_LONG_INDEX_SCALE"), (0, u "I"), (2, u "U"), (0, u "Ljdk/internal/misc/Unsafe;"), (8, u "BIG_ENDIAN"), (0, u "Z"), (8, u "LOG2_BYTE_BIT_SIZE"), (4, u "LOG2_ARRAY_INT_INDEX_SCALE"), (54, u "JLA"), (0, u "Ljdk/internal/access/JavaLangAccess;"), (11, u "LOG2_ARRAY_BOOLEAN_INDEX_SCALE"), (9, u "LOG2_ARRAY_BYTE_INDEX_SCALE"), (5, u "LOG2_ARRAY_CHAR_INDEX_SCALE"), (5, u "LOG2_ARRAY_SHORT_INDEX_SCALE"), (18, u "LOG2_ARRAY_FLOAT_INDEX_SCALE"), (24, u "LOG2_ARRAY_DOUBLE_INDEX_SCALE"), (89, u "T_BOOLEAN"), (2, u "T_CHAR"), (1, u "T_FLOAT"), (1, u "T_DOUBLE"), (1, u "T_BYTE"), (1, u "T_SHORT"), (1, u "T_INT"), (1, u "T_LONG"), (1, u "SOFT_MAX_ARRAY_LENGTH")] 83

def k15m0 : Method := { name := "<init>", desc := "()V", sig := { parameters := [], returnType := none }, accessFlags := 2, code := none }
/-- jdk/internal/util/ArraysSupport -/
def k15 : Class := { plain "jdk/internal/util/ArraysSupport" (some 0) with
  accessFlags := 33
  interfaces := #[]
  cf := some (fileOf pool15 21 #[] #[{ accessFlags := 2, nameIndex := 9, descriptorIndex := 19, attributes := #[] }] 33 16 #[] #[{ accessFlags := 24, nameIndex := 28, descriptorIndex := 29, attributes := #[] }, { accessFlags := 26, nameIndex := 38, descriptorIndex := 39, attributes := #[] }, { accessFlags := 25, nameIndex := 121, descriptorIndex := 25, attributes := #[] }, { accessFlags := 25, nameIndex := 131, descriptorIndex := 25, attributes := #[] }, { accessFlags := 25, nameIndex := 137, descriptorIndex := 25, attributes := #[] }, { accessFlags := 25, nameIndex := 143, descriptorIndex := 25, attributes := #[] }, { accessFlags := 25, nameIndex := 53, descriptorIndex := 25, attributes := #[] }, { accessFlags := 25, nameIndex := 24, descriptorIndex := 25, attributes := #[] }, { accessFlags := 25, nameIndex := 162, descriptorIndex := 25, attributes := #[] }, { accessFlags := 25, nameIndex := 187, descriptorIndex := 25, attributes := #[] }, { accessFlags := 26, nameIndex := 48, descriptorIndex := 25, attributes := #[] }, { accessFlags := 25, nameIndex := 277, descriptorIndex := 25, attributes := #[] }, { accessFlags := 25, nameIndex := 280, descriptorIndex := 25, attributes := #[] }, { accessFlags := 25, nameIndex := 282, descriptorIndex := 25, attributes := #[] }, { accessFlags := 25, nameIndex := 284, descriptorIndex := 25, attributes := #[] }, { accessFlags := 25, nameIndex := 286, descriptorIndex := 25, attributes := #[] }, { accessFlags := 25, nameIndex := 288, descriptorIndex := 25, attributes := #[] }, { accessFlags := 25, nameIndex := 290, descriptorIndex := 25, attributes := #[] }, { accessFlags := 25, nameIndex := 292, descriptorIndex := 25, attributes := #[] }, { accessFlags := 26, nameIndex := 108, descriptorIndex := 109, attributes := #[] }, { accessFlags := 25, nameIndex := 294, descriptorIndex := 25, attributes := #[] }])
  fields := #[{ name := "U", type := (.object "jdk/internal/misc/Unsafe"), accessFlags := 24, slot := 0, constantValue := 0 }, { name := "BIG_ENDIAN", type := .boolean, accessFlags := 26, slot := 1, constantValue := 0 }, { name := "LOG2_ARRAY_BOOLEAN_INDEX_SCALE", type := .int, accessFlags := 25, slot := 2, constantValue := 0 }, { name := "LOG2_ARRAY_BYTE_INDEX_SCALE", type := .int, accessFlags := 25, slot := 3, constantValue := 0 }, { name := "LOG2_ARRAY_CHAR_INDEX_SCALE", type := .int, accessFlags := 25, slot := 4, constantValue := 0 }, { name := "LOG2_ARRAY_SHORT_INDEX_SCALE", type := .int, accessFlags := 25, slot := 5, constantValue := 0 }, { name := "LOG2_ARRAY_INT_INDEX_SCALE", type := .int, accessFlags := 25, slot := 6, constantValue := 0 }, { name := "LOG2_ARRAY_LONG_INDEX_SCALE", type := .int, accessFlags := 25, slot := 7, constantValue := 0 }, { name := "LOG2_ARRAY_FLOAT_INDEX_SCALE", type := .int, accessFlags := 25, slot := 8, constantValue := 0 }, { name := "LOG2_ARRAY_DOUBLE_INDEX_SCALE", type := .int, accessFlags := 25, slot := 9, constantValue := 0 }, { name := "LOG2_BYTE_BIT_SIZE", type := .int, accessFlags := 26, slot := 10, constantValue := 0 }, { name := "T_BOOLEAN", type := .int, accessFlags := 25, slot := 11, constantValue := 0 }, { name := "T_CHAR", type := .int, accessFlags := 25, slot := 12, constantValue := 0 }, { name := "T_FLOAT", type := .int, accessFlags := 25, slot := 13, constantValue := 0 }, { name := "T_DOUBLE", type := .int, accessFlags := 25, slot := 14, constantValue := 0 }, { name := "T_BYTE", type := .int, accessFlags := 25, slot := 15, constantValue := 0 }, { name := "T_SHORT", type := .int, accessFlags := 25, slot := 16, constantValue := 0 }, { name := "T_INT", type := .int, accessFlags := 25, slot := 17, constantValue := 0 }, { name := "T_LONG", type := .int, accessFlags := 25, slot := 18, constantValue := 0 }, { name := "JLA", type := (.object "jdk/internal/access/JavaLangAccess"), accessFlags := 26, slot := 19, constantValue := 0 }, { name := "SOFT_MAX_ARRAY_LENGTH", type := .int, accessFlags := 25, slot := 20, constantValue := 0 }]
  methods := #[k15m0]
  instanceTypes := #[]
  staticTypes := #[(.object "jdk/internal/misc/Unsafe"), .boolean, .int, .int, .int, .int, .int, .int, .int, .int, .int, .int, .int, .int, .int, .int, .int, .int, .int, (.object "jdk/internal/access/JavaLangAccess"), .int]
  resolved := Array.replicate 378 none
  statics := none }

def pool16 : Array CpInfo := pool [(1, u "java/lang/Cloneable"), (0, .class_ 1), (0, u "java/lang/Object"), (0, .class_ 3)] 3

/-- java/lang/Cloneable -/
def k16 : Class := { plain "java/lang/Cloneable" (some 0) with
  accessFlags := 1537
  interfaces := #[]
  cf := some (fileOf pool16 2 #[] #[] 1537 4 #[] #[])
  fields := #[]
  methods := #[]
  instanceTypes := #[]
  staticTypes := #[]
  resolved := Array.replicate 8 none
  statics := none }

/-- the primitive byte -/
def k17 : Class := { plain "byte" none with kind := .primitive 'B', accessFlags := 0x411 }
/-- [B -/
def k18 : Class := { plain "[B" (some 0) with kind := .array 17 .byte, interfaces := #[16, 2], accessFlags := 1041 }

/-- the primitive char -/
def k19 : Class := { plain "char" none with kind := .primitive 'C', accessFlags := 0x411 }
/-- [C -/
def k20 : Class := { plain "[C" (some 0) with kind := .array 19 .char, interfaces := #[16, 2], accessFlags := 1041 }

/-- the primitive int -/
def k21 : Class := { plain "int" none with kind := .primitive 'I', accessFlags := 0x411 }
/-- [I -/
def k22 : Class := { plain "[I" (some 0) with kind := .array 21 .int, interfaces := #[16, 2], accessFlags := 1041 }

def heap : Heap := #[{ cls := 7, slots := #[.long 0, .int 1, .null, .int 0, .null, .int 0, .int 0], vm := .statics 7 },
  { cls := 14, slots := #[.null, .null, .null], vm := .statics 14 }]
def classes : Array Class := #[k0, k1, k2, k3, k4, k5, k6, k7, k8, k9, k10, k11, k12, k13, k14, k15, k16, k17, k18, k19, k20, k21, k22]
def interned : List (Array UInt16 × Addr) := []
def slotsUsed : Nat := 10
def theMethod : MethodId := ⟨1, 1⟩
def args0 : Array Value := #[.int 5, .int 6, .int 7, .int 8]
def aboutOver (below : List Frame) : State where
  vm := { classes := classes, interned := interned.toArray }
  heap := heap
  slotsUsed := slotsUsed
  threads := #[{ frames := .invoking theMethod args0 :: below }]
def below0 : List Frame := [.native { method := ⟨0, 0⟩, args := #[] }]
def about1 : State := aboutOver below0
def p0 : Program := .bare "" "" ""
def e0 : Env := launch0.env 0 0 0
theorem w_frames : about1.frames = Frame.invoking theMethod args0 :: below0 := rfl
set_option maxRecDepth 65536 in
theorem w_args : argsFit about1.vm theMethod args0 = true := by decide +kernel
set_option maxRecDepth 65536 in
theorem w_heap : heapFits about1 = true := by decide +kernel
set_option maxRecDepth 65536 in
theorem w_runnable : about1.curStatus? = some .runnable := by decide +kernel
set_option maxRecDepth 65536 in
theorem w_alone : about1.alone = true := by decide +kernel
set_option maxRecDepth 65536 in
theorem w_named : about1.methodNamed? x = some theMethod := by decide +kernel
set_option maxRecDepth 65536 in
theorem w_hears : about1.hears theMethod below0 = true := by decide +kernel
set_option maxRecDepth 65536 in
theorem w_ripe : about1.ripe theMethod args0 below0 = true := by decide +kernel
theorem w_running : about1.status = .running := rfl
set_option maxRecDepth 65536 in
theorem w_room : about1.hasRoom e0.platform room_1 = true :=
  launch0.hasRoom_least _ room_1 (by decide +kernel) (by decide +kernel) (by decide +kernel) (by decide +kernel) (by decide +kernel) (by decide +kernel)
theorem allAtoms_all (ts : List Jvm.Cond) (a : Array Jvm.Value) (st : Jvm.State) : (allAtoms ts).before a st = ts.all (fun c => c.before a st) := by
  induction ts with
  | nil => rfl
  | cons c t ih =>
    show (Jvm.Cond.and c (allAtoms t)).before a st = _
    rw [Jvm.Cond.before_and, ih, List.all_cons]
def words1 : List Jvm.Cond := Jvm.Cond.code x code maxLocals ret :: tables_1
/-- a 'code' word, met by the world's own term for the bytes: nothing is compared byte by byte -/
theorem code_word {y : MethodName} {bytes : ByteArray} {mx : Nat} {rt : Option FieldType} {a : Array Value} {s : State} {m : MethodId} {meth : Method} {c : Code} (h1 : s.methodNamed? y = some m) (h2 : s.vm.method? m = some meth) (h3 : meth.code = some c) (h4 : c.code = bytes)
    (h5 : (c.maxLocals == mx && c.exceptionTable.isEmpty && decide (c.maxStack ≤ mostOperands) && decide (meth.sig.returnType = rt) && !meth.locks && decide (parseMethodDescriptor y.desc = some meth.sig)) = true) : (Jvm.Cond.code y bytes mx rt).before a s = true := by
  simp only [Bool.and_eq_true, beq_iff_eq, Bool.not_eq_true', decide_eq_true_eq] at h5
  obtain ⟨⟨⟨⟨⟨g1, g2⟩, g3⟩, g4⟩, g5⟩, g6⟩ := h5
  simp [Cond.before, Cond.holds, Cond.value, h1, h2, h3, h4, g1, g2, g3, g4, g5, g6]
def isCode : Jvm.Cond → Bool
  | .code _ _ _ _ => true
  | _ => false
theorem all_split {L : List Jvm.Cond} {P : Jvm.Cond → Bool} (h1 : L.all (fun c => isCode c || P c) = true) (h2 : ∀ c ∈ L.filter isCode, P c = true) : L.all P = true := by
  refine List.all_eq_true.mpr fun c hc => ?_
  have h := List.all_eq_true.mp h1 c hc
  rcases Bool.eq_false_or_eq_true (isCode c) with hi | hi
  · exact h2 c (List.mem_filter.mpr ⟨hc, hi⟩)
  · simpa [hi] using h
set_option maxRecDepth 65536 in
theorem w_c0 : (Jvm.Cond.code x code maxLocals ret).before args0 about1 = true := code_word (m := ⟨1, 1⟩) (meth := k1m1) (c := k1c1) (by decide +kernel) rfl rfl rfl (by decide +kernel)
set_option maxRecDepth 65536 in
theorem w_c1 : (Jvm.Cond.code ({ cls := "java/lang/String", name := "<init>", desc := "([C)V" } : Jvm.MethodName) jdk_42_method_3_code (2 : Nat) (Option.none : Option Jvm.ClassFile.FieldType)).before args0 about1 = true := code_word (m := ⟨7, 1⟩) (meth := k7m1) (c := k7c1) (by decide +kernel) rfl rfl rfl (by decide +kernel)
set_option maxRecDepth 65536 in
theorem w_c2 : (Jvm.Cond.code ({ cls := "java/lang/String", name := "<init>", desc := "([CIILjava/lang/Void;)V" } : Jvm.MethodName) jdk_42_method_149_code (6 : Nat) (Option.none : Option Jvm.ClassFile.FieldType)).before args0 about1 = true := code_word (m := ⟨7, 4⟩) (meth := k7m4) (c := k7c4) (by decide +kernel) rfl rfl rfl (by decide +kernel)
set_option maxRecDepth 65536 in
theorem w_c3 : (Jvm.Cond.code ({ cls := "java/lang/Object", name := "<init>", desc := "()V" } : Jvm.MethodName) object_method_1_code (1 : Nat) (Option.none : Option Jvm.ClassFile.FieldType)).before args0 about1 = true := code_word (m := ⟨0, 0⟩) (meth := k0m0) (c := k0c0) (by decide +kernel) rfl rfl rfl (by decide +kernel)
set_option maxRecDepth 65536 in
theorem w_c4 : (Jvm.Cond.code ({ cls := "com/example/escrow/escrow/LockRecord", name := "untaken", desc := "(Ljava/lang/String;)Lcom/example/escrow/escrow/LockRecord;" } : Jvm.MethodName) prog_25_method_2_code (1 : Nat) (Option.some (Jvm.ClassFile.FieldType.object "com/example/escrow/escrow/LockRecord"))).before args0 about1 = true := code_word (m := ⟨10, 1⟩) (meth := k10m1) (c := k10c1) (by decide +kernel) rfl rfl rfl (by decide +kernel)
set_option maxRecDepth 65536 in
theorem w_c5 : (Jvm.Cond.code ({ cls := "com/example/escrow/escrow/LockRecord", name := "<init>", desc := "(Ljava/lang/String;JLjava/lang/String;Lcom/example/escrow/escrow/Claim;)V" } : Jvm.MethodName) prog_25_method_1_code (6 : Nat) (Option.none : Option Jvm.ClassFile.FieldType)).before args0 about1 = true := code_word (m := ⟨10, 0⟩) (meth := k10m0) (c := k10c0) (by decide +kernel) rfl rfl rfl (by decide +kernel)
set_option maxRecDepth 65536 in
theorem w_c6 : (Jvm.Cond.code ({ cls := "java/lang/Record", name := "<init>", desc := "()V" } : Jvm.MethodName) jdk_30_method_1_code (1 : Nat) (Option.none : Option Jvm.ClassFile.FieldType)).before args0 about1 = true := code_word (m := ⟨8, 0⟩) (meth := k8m0) (c := k8c0) (by decide +kernel) rfl rfl rfl (by decide +kernel)
set_option maxRecDepth 65536 in
theorem w_c7 : (Jvm.Cond.code ({ cls := "java/util/Objects", name := "requireNonNull", desc := "(Ljava/lang/Object;Ljava/lang/String;)Ljava/lang/Object;" } : Jvm.MethodName) jdk_31_method_11_code (2 : Nat) (Option.some (Jvm.ClassFile.FieldType.object "java/lang/Object"))).before args0 about1 = true := code_word (m := ⟨11, 1⟩) (meth := k11m1) (c := k11c1) (by decide +kernel) rfl rfl rfl (by decide +kernel)
set_option maxRecDepth 65536 in
theorem w_c8 : (Jvm.Cond.code ({ cls := "com/example/escrow/escrow/LockRecord", name := "name", desc := "()Ljava/lang/String;" } : Jvm.MethodName) prog_25_method_16_code (1 : Nat) (Option.some (Jvm.ClassFile.FieldType.object "java/lang/String"))).before args0 about1 = true := code_word (m := ⟨10, 2⟩) (meth := k10m2) (c := k10c2) (by decide +kernel) rfl rfl rfl (by decide +kernel)
set_option maxRecDepth 65536 in
theorem w_c9 : (Jvm.Cond.code ({ cls := "java/lang/String", name := "equals", desc := "(Ljava/lang/Object;)Z" } : Jvm.MethodName) jdk_42_method_66_code (3 : Nat) (Option.some Jvm.ClassFile.FieldType.boolean)).before args0 about1 = true := code_word (m := ⟨7, 2⟩) (meth := k7m2) (c := k7c2) (by decide +kernel) rfl rfl rfl (by decide +kernel)
set_option maxRecDepth 65536 in
theorem w_c10 : (Jvm.Cond.code ({ cls := "com/example/escrow/escrow/LockRecord", name := "token", desc := "()J" } : Jvm.MethodName) prog_25_method_17_code (1 : Nat) (Option.some Jvm.ClassFile.FieldType.long)).before args0 about1 = true := code_word (m := ⟨10, 3⟩) (meth := k10m3) (c := k10c3) (by decide +kernel) rfl rfl rfl (by decide +kernel)
set_option maxRecDepth 65536 in
theorem w_c11 : (Jvm.Cond.code ({ cls := "com/example/escrow/escrow/LockRecord", name := "owner", desc := "()Ljava/lang/String;" } : Jvm.MethodName) prog_25_method_18_code (1 : Nat) (Option.some (Jvm.ClassFile.FieldType.object "java/lang/String"))).before args0 about1 = true := code_word (m := ⟨10, 4⟩) (meth := k10m4) (c := k10c4) (by decide +kernel) rfl rfl rfl (by decide +kernel)
set_option maxRecDepth 65536 in
theorem w_c12 : (Jvm.Cond.code ({ cls := "com/example/escrow/escrow/LockRecord", name := "claim", desc := "()Lcom/example/escrow/escrow/Claim;" } : Jvm.MethodName) prog_25_method_19_code (1 : Nat) (Option.some (Jvm.ClassFile.FieldType.object "com/example/escrow/escrow/Claim"))).before args0 about1 = true := code_word (m := ⟨10, 5⟩) (meth := k10m5) (c := k10c5) (by decide +kernel) rfl rfl rfl (by decide +kernel)
set_option maxRecDepth 65536 in
theorem w_c13 : (Jvm.Cond.code ({ cls := "java/lang/StringUTF16", name := "compress", desc := "([CII)[B" } : Jvm.MethodName) jdk_52_method_16_code (6 : Nat) (Option.some (Jvm.ClassFile.FieldType.array Jvm.ClassFile.FieldType.byte))).before args0 about1 = true := code_word (m := ⟨12, 2⟩) (meth := k12m2) (c := k12c2) (by decide +kernel) rfl rfl rfl (by decide +kernel)
set_option maxRecDepth 65536 in
theorem w_c14 : (Jvm.Cond.code ({ cls := "java/lang/StringUTF16", name := "compress", desc := "([CI[BII)I" } : Jvm.MethodName) jdk_52_method_21_code (7 : Nat) (Option.some Jvm.ClassFile.FieldType.int)).before args0 about1 = true := code_word (m := ⟨12, 3⟩) (meth := k12m3) (c := k12c3) (by decide +kernel) rfl rfl rfl (by decide +kernel)
set_option maxRecDepth 65536 in
theorem w_c15 : (Jvm.Cond.code ({ cls := "java/lang/StringUTF16", name := "coderFromArrayLen", desc := "([BI)B" } : Jvm.MethodName) jdk_52_method_15_code (2 : Nat) (Option.some Jvm.ClassFile.FieldType.byte)).before args0 about1 = true := code_word (m := ⟨12, 1⟩) (meth := k12m1) (c := k12c1) (by decide +kernel) rfl rfl rfl (by decide +kernel)
set_option maxRecDepth 65536 in
theorem w_c16 : (Jvm.Cond.code ({ cls := "java/lang/String", name := "valueOf", desc := "(C)Ljava/lang/String;" } : Jvm.MethodName) jdk_42_method_139_code (1 : Nat) (Option.some (Jvm.ClassFile.FieldType.object "java/lang/String"))).before args0 about1 = true := code_word (m := ⟨7, 3⟩) (meth := k7m3) (c := k7c3) (by decide +kernel) rfl rfl rfl (by decide +kernel)
set_option maxRecDepth 65536 in
theorem w_c17 : (Jvm.Cond.code ({ cls := "java/lang/StringLatin1", name := "canEncode", desc := "(C)Z" } : Jvm.MethodName) jdk_43_method_3_code (1 : Nat) (Option.some Jvm.ClassFile.FieldType.boolean)).before args0 about1 = true := code_word (m := ⟨13, 1⟩) (meth := k13m1) (c := k13c1) (by decide +kernel) rfl rfl rfl (by decide +kernel)
set_option maxRecDepth 65536 in
theorem w_c18 : (Jvm.Cond.code ({ cls := "java/lang/StringLatin1", name := "toBytes", desc := "(C)[B" } : Jvm.MethodName) jdk_43_method_46_code (1 : Nat) (Option.some (Jvm.ClassFile.FieldType.array Jvm.ClassFile.FieldType.byte))).before args0 about1 = true := code_word (m := ⟨13, 2⟩) (meth := k13m2) (c := k13c2) (by decide +kernel) rfl rfl rfl (by decide +kernel)
set_option maxRecDepth 65536 in
theorem w_c19 : (Jvm.Cond.code ({ cls := "java/lang/String", name := "<init>", desc := "([BB)V" } : Jvm.MethodName) jdk_42_method_151_code (3 : Nat) (Option.none : Option Jvm.ClassFile.FieldType)).before args0 about1 = true := code_word (m := ⟨7, 5⟩) (meth := k7m5) (c := k7c5) (by decide +kernel) rfl rfl rfl (by decide +kernel)
def codes1 : List Jvm.Cond := [Jvm.Cond.code x code maxLocals ret, Jvm.Cond.code ({ cls := "java/lang/String", name := "<init>", desc := "([C)V" } : Jvm.MethodName) jdk_42_method_3_code (2 : Nat) (Option.none : Option Jvm.ClassFile.FieldType), Jvm.Cond.code ({ cls := "java/lang/String", name := "<init>", desc := "([CIILjava/lang/Void;)V" } : Jvm.MethodName) jdk_42_method_149_code (6 : Nat) (Option.none : Option Jvm.ClassFile.FieldType), Jvm.Cond.code ({ cls := "java/lang/Object", name := "<init>", desc := "()V" } : Jvm.MethodName) object_method_1_code (1 : Nat) (Option.none : Option Jvm.ClassFile.FieldType), Jvm.Cond.code ({ cls := "com/example/escrow/escrow/LockRecord", name := "untaken", desc := "(Ljava/lang/String;)Lcom/example/escrow/escrow/LockRecord;" } : Jvm.MethodName) prog_25_method_2_code (1 : Nat) (Option.some (Jvm.ClassFile.FieldType.object "com/example/escrow/escrow/LockRecord")), Jvm.Cond.code ({ cls := "com/example/escrow/escrow/LockRecord", name := "<init>", desc := "(Ljava/lang/String;JLjava/lang/String;Lcom/example/escrow/escrow/Claim;)V" } : Jvm.MethodName) prog_25_method_1_code (6 : Nat) (Option.none : Option Jvm.ClassFile.FieldType), Jvm.Cond.code ({ cls := "java/lang/Record", name := "<init>", desc := "()V" } : Jvm.MethodName) jdk_30_method_1_code (1 : Nat) (Option.none : Option Jvm.ClassFile.FieldType), Jvm.Cond.code ({ cls := "java/util/Objects", name := "requireNonNull", desc := "(Ljava/lang/Object;Ljava/lang/String;)Ljava/lang/Object;" } : Jvm.MethodName) jdk_31_method_11_code (2 : Nat) (Option.some (Jvm.ClassFile.FieldType.object "java/lang/Object")), Jvm.Cond.code ({ cls := "com/example/escrow/escrow/LockRecord", name := "name", desc := "()Ljava/lang/String;" } : Jvm.MethodName) prog_25_method_16_code (1 : Nat) (Option.some (Jvm.ClassFile.FieldType.object "java/lang/String")), Jvm.Cond.code ({ cls := "java/lang/String", name := "equals", desc := "(Ljava/lang/Object;)Z" } : Jvm.MethodName) jdk_42_method_66_code (3 : Nat) (Option.some Jvm.ClassFile.FieldType.boolean), Jvm.Cond.code ({ cls := "com/example/escrow/escrow/LockRecord", name := "token", desc := "()J" } : Jvm.MethodName) prog_25_method_17_code (1 : Nat) (Option.some Jvm.ClassFile.FieldType.long), Jvm.Cond.code ({ cls := "com/example/escrow/escrow/LockRecord", name := "owner", desc := "()Ljava/lang/String;" } : Jvm.MethodName) prog_25_method_18_code (1 : Nat) (Option.some (Jvm.ClassFile.FieldType.object "java/lang/String")), Jvm.Cond.code ({ cls := "com/example/escrow/escrow/LockRecord", name := "claim", desc := "()Lcom/example/escrow/escrow/Claim;" } : Jvm.MethodName) prog_25_method_19_code (1 : Nat) (Option.some (Jvm.ClassFile.FieldType.object "com/example/escrow/escrow/Claim")), Jvm.Cond.code ({ cls := "java/lang/StringUTF16", name := "compress", desc := "([CII)[B" } : Jvm.MethodName) jdk_52_method_16_code (6 : Nat) (Option.some (Jvm.ClassFile.FieldType.array Jvm.ClassFile.FieldType.byte)), Jvm.Cond.code ({ cls := "java/lang/StringUTF16", name := "compress", desc := "([CI[BII)I" } : Jvm.MethodName) jdk_52_method_21_code (7 : Nat) (Option.some Jvm.ClassFile.FieldType.int), Jvm.Cond.code ({ cls := "java/lang/StringUTF16", name := "coderFromArrayLen", desc := "([BI)B" } : Jvm.MethodName) jdk_52_method_15_code (2 : Nat) (Option.some Jvm.ClassFile.FieldType.byte), Jvm.Cond.code ({ cls := "java/lang/String", name := "valueOf", desc := "(C)Ljava/lang/String;" } : Jvm.MethodName) jdk_42_method_139_code (1 : Nat) (Option.some (Jvm.ClassFile.FieldType.object "java/lang/String")), Jvm.Cond.code ({ cls := "java/lang/StringLatin1", name := "canEncode", desc := "(C)Z" } : Jvm.MethodName) jdk_43_method_3_code (1 : Nat) (Option.some Jvm.ClassFile.FieldType.boolean), Jvm.Cond.code ({ cls := "java/lang/StringLatin1", name := "toBytes", desc := "(C)[B" } : Jvm.MethodName) jdk_43_method_46_code (1 : Nat) (Option.some (Jvm.ClassFile.FieldType.array Jvm.ClassFile.FieldType.byte)), Jvm.Cond.code ({ cls := "java/lang/String", name := "<init>", desc := "([BB)V" } : Jvm.MethodName) jdk_42_method_151_code (3 : Nat) (Option.none : Option Jvm.ClassFile.FieldType)]
set_option maxRecDepth 65536 in
theorem codes_eq : words1.filter isCode = codes1 := rfl
theorem w_codes : ∀ c ∈ words1.filter isCode, c.before args0 about1 = true := by
  rw [codes_eq]
  intro c hc
  simp only [codes1, List.mem_cons, List.not_mem_nil, or_false] at hc
  rcases hc with rfl | rfl | rfl | rfl | rfl | rfl | rfl | rfl | rfl | rfl | rfl | rfl | rfl | rfl | rfl | rfl | rfl | rfl | rfl | rfl
  · exact w_c0
  · exact w_c1
  · exact w_c2
  · exact w_c3
  · exact w_c4
  · exact w_c5
  · exact w_c6
  · exact w_c7
  · exact w_c8
  · exact w_c9
  · exact w_c10
  · exact w_c11
  · exact w_c12
  · exact w_c13
  · exact w_c14
  · exact w_c15
  · exact w_c16
  · exact w_c17
  · exact w_c18
  · exact w_c19
set_option maxRecDepth 65536 in
theorem w_t1 : (words1.take 24).all (fun c => isCode c || c.before args0 about1) = true := by decide +kernel
set_option maxRecDepth 65536 in
theorem w_t2 : ((words1.drop 24).take 24).all (fun c => isCode c || c.before args0 about1) = true := by decide +kernel
set_option maxRecDepth 65536 in
theorem w_t3 : (((words1.drop 24).drop 24).take 24).all (fun c => isCode c || c.before args0 about1) = true := by decide +kernel
set_option maxRecDepth 65536 in
theorem w_t4 : ((((words1.drop 24).drop 24).drop 24).take 24).all (fun c => isCode c || c.before args0 about1) = true := by decide +kernel
set_option maxRecDepth 65536 in
theorem w_t5 : ((((words1.drop 24).drop 24).drop 24).drop 24).all (fun c => isCode c || c.before args0 about1) = true := by decide +kernel
theorem w_tables : (allAtoms (Jvm.Cond.code x code maxLocals ret :: tables_1)).before args0 about1 = true := by
  rw [allAtoms_all]
  show words1.all (fun c => c.before args0 about1) = true
  refine all_split ?_ w_codes
  rw [← List.take_append_drop 24 words1, List.all_append, w_t1, ← List.take_append_drop 24 (words1.drop 24), List.all_append, w_t2, ← List.take_append_drop 24 ((words1.drop 24).drop 24), List.all_append, w_t3, ← List.take_append_drop 24 (((words1.drop 24).drop 24).drop 24), List.all_append, w_t4, w_t5]
  rfl
set_option maxRecDepth 65536 in
theorem w_rest : rest_1_c.before args0 about1 = true := by decide +kernel
set_option maxRecDepth 65536 in
theorem w_case : (Jvm.Cond.and given_1 narrow_1).before args0 about1 = true := by decide +kernel
set_option maxRecDepth 65536 in
theorem w_consts : constsHeld consts_1 about1 := Jvm.Lit.constsHeldB_iff.mp (by decide +kernel)
theorem w_applies : (headSpec (Jvm.Cond.code x code maxLocals ret :: tables_1) room_1).applies x e0.platform about1 = true :=
  (Spec.applies_iff w_frames).mpr ⟨w_running, w_runnable, w_alone, w_named, w_hears, w_ripe, w_room, w_tables⟩
theorem atStart : AtStart classFile x code maxLocals ret World_1 tables_1 room_1 Calls_1 rest_1 Pre_1 launch0 p0 e0 about1 theMethod args0 below0 :=
  ⟨lists_1, trivial, launch0.admits_env _ _ _, launch0.least_env, fairChoices_fair.cas, fairChoices_fair.clock, w_frames, w_args, w_heap, w_applies, ⟨w_consts, trivial⟩, w_rest, w_case⟩
end start1
theorem witness_1 : WitnessClaimed_1 := ⟨start1.p0, start1.e0, start1.about1, start1.theMethod, start1.args0, start1.below0, start1.atStart⟩
end Jvm.Pilot.@@N@@
