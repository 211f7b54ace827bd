import JvmDerived
import JvmDerived.Pilot.@@N@@Statement
import JvmDerived.Pilot.@@N@@Code
set_option linter.unusedVariables false
set_option linter.unusedSimpArgs false
namespace Jvm.Own
open Jvm Jvm.ClassFile Sem Op Lib Jvm.Free Jvm.Stand Jvm.LawKit Jvm.RoadKit
/-! MY LAYER: a goal 'Wk' over the library's Stand (from any state that stands here with the heap h, the walk comes to its end and Q holds), one rule a step; W: may the walk intern (wide frame). -/
def Bs (W : Bool) (s : State) (vm0 : Vm) (sz : Nat) : Prop := match W with
  | false => vm0 = s.vm
  | true => ∃ k0, s.Since vm0 k0 ∧ k0 ≤ sz
def En (W : Bool) (s : State) (o : Outcome) (t : State) (L : List Loc) (k n : Nat) : Prop := match W with
  | false => FrameEnd s o t L k n
  | true => ReturnedEndW s o t L k n
def Cx (Z : State) (p : Program) (s : State) (m : MethodId) (meth : Method) (c : Code) (y : MethodName) (bytes : ByteArray) (maxL : Nat) (ret : Option FieldType) : Prop :=
  p.tables.exec = Jvm.exec ∧ c.code = bytes ∧ c.maxLocals = maxL ∧ Z.Warmed39 s.vm ∧ s.vm.findClass y.cls = some m.cls ∧ meth.name = y.name ∧ meth.sig.returnType = ret ∧ meth.locks = false
def Wk (W : Bool) (p : Program) (l : Launch) (e : Env) (R : Room) (s : State) (m : MethodId) (args : Array Value) (below : List Frame) (meth : Method) (c : Code) (n0 : Nat) (Q : Option Value → Heap → Prop) (h : Heap) (k n : Nat) (g : JFrame) : Prop :=
  ∀ T L vm0, Stand p l e R (s.setVm vm0) m args below meth c T L k n → Bs W s vm0 h.size → T.heap = h → Fr n0 L →
    ∃ s₂ o, Steps p.tables e below (T.setTop g) s₂ ∧ s₂.status = .running ∧ Ended s₂ below o ∧ ∃ v L, o = .returned v ∧ (Q v s₂.heap ∧ Fr n0 L) ∧ En W s o s₂ L R.cells R.slots
def Met (W : Bool) (l : Launch) (Z : State) (n0 : Nat) (y : MethodName) (bytes : ByteArray) (maxL : Nat) (ret : Option FieldType) (rm : Room) (as : Array Value) (h : Heap) (Q : Option Value → Heap → Prop) : Prop :=
  ∀ ws, MetFree l y (head1 (Cond.code y bytes maxL ret :: ws) rm) (fun a U => a = as ∧ Z.Warmed39 U.vm ∧ U.heap = h) (fun _ _ _ _ _ => True)
    (fun _ U o U' => ∃ v L, o = .returned v ∧ (Q v U'.heap ∧ Fr n0 L) ∧ En W U o U' L rm.cells rm.slots)
theorem Bs.start (W : Bool) (s : State) (sz : Nat) : Bs W s s.vm sz := by
  cases W
  · rfl
  · exact ⟨0, (State.WarmedH.refl s).since 0, Nat.zero_le _⟩
theorem Bs.mono {W : Bool} {s : State} {vm0 : Vm} {a b : Nat} (B : Bs W s vm0 a) (q : a ≤ b) : Bs W s vm0 b := by
  cases W
  · exact B
  · obtain ⟨k0, h1, h2⟩ := B; exact ⟨k0, h1, Nat.le_trans h2 q⟩
theorem Bs.warm {W : Bool} {s : State} {vm0 : Vm} {a : Nat} (B : Bs W s vm0 a) : s.Warmed39 vm0 := by
  cases W
  · cases (B : vm0 = s.vm); exact State.Warmed39.refl s
  · obtain ⟨k0, h1, h2⟩ := B; exact h1.1
section Cxs
variable {W : Bool} {Z : State} {p : Program} {s : State} {m : MethodId} {meth : Method} {c : Code} {y : MethodName} {bytes : ByteArray} {maxL : Nat} {ret : Option FieldType}
theorem Cx.hx (C : Cx Z p s m meth c y bytes maxL ret) : p.tables.exec = Jvm.exec := C.1
theorem Cx.hby (C : Cx Z p s m meth c y bytes maxL ret) : c.code = bytes := C.2.1
theorem Cx.hml (C : Cx Z p s m meth c y bytes maxL ret) : c.maxLocals = maxL := C.2.2.1
theorem Cx.hZ (C : Cx Z p s m meth c y bytes maxL ret) : Z.Warmed39 s.vm := C.2.2.2.1
theorem Cx.hown (C : Cx Z p s m meth c y bytes maxL ret) : s.vm.findClass y.cls = some m.cls := C.2.2.2.2.1
theorem Cx.hnm (C : Cx Z p s m meth c y bytes maxL ret) : meth.name = y.name := C.2.2.2.2.2.1
theorem Cx.hret (C : Cx Z p s m meth c y bytes maxL ret) : meth.sig.returnType = ret := C.2.2.2.2.2.2.1
theorem Cx.hlk (C : Cx Z p s m meth c y bytes maxL ret) : meth.locks = false := C.2.2.2.2.2.2.2
theorem Cx.wZ (C : Cx Z p s m meth c y bytes maxL ret) {vm0 : Vm} {a : Nat} (B : Bs W s vm0 a) : Z.Warmed39 (s.setVm vm0).vm := State.Warmed39.trans (t := s) C.hZ B.warm
theorem Cx.wo (C : Cx Z p s m meth c y bytes maxL ret) {vm0 : Vm} {a : Nat} (B : Bs W s vm0 a) : (s.setVm vm0).vm.findClass y.cls = some m.cls := by
  show vm0.findClass y.cls = _
  rw [B.warm.alike.findClass]; exact C.hown
end Cxs
theorem Met.of {W : Bool} {l : Launch} {Z : State} {n0 : Nat} {y : MethodName} {bytes : ByteArray} {maxL : Nat} {ret : Option FieldType} {rm : Room} {as : Array Value} {h : Heap} {Q : Option Value → Heap → Prop}
    (hpn : plainName y.cls = true) (Ls : Array Slot) (hef : ∀ m, entryFrame m as maxL = mkF m 0 Ls [])
    (H : ∀ p e s m below meth c, Cx Z p s m meth c y bytes maxL ret → Wk W p l e rm s m as below meth c n0 Q h 0 0 (mkF m 0 Ls [])) : Met W l Z n0 y bytes maxL ret rm as h Q := by
  intro ws
  refine MetFree.of_bodySF (plainFor_of_name hpn) hisR ?_
  intro p e s m args below meth c s₁ Bd hml0 hP hK
  obtain ⟨ha, hZ, hh⟩ := hP
  have hown := findClass_of_methodNamed Bd.named
  have hnm := (name_of_methodNamed Bd.named Bd.method).1
  have e0 : s₁.heap = h := by rw [← hh, Bd.state]; rfl
  have X0 : Stand p l e rm s m args below meth c s₁ [] 0 0 := Stand.of_body Bd
  rw [ha] at X0 ⊢
  obtain ⟨s₂, o, h1, h2⟩ := H p e s m below meth c ⟨Bd.exec, Bd.bytes, hml0, hZ, hown, hnm, Bd.returns, Bd.notSynchronized⟩ s₁ [] s.vm X0 (Bs.start W s _) e0 (Fr.nil n0)
  exact ⟨s₂, o, castTop (hef m) h1, h2⟩
section Rules
variable {W : Bool} {Z : State} {p : Program} {l : Launch} {e : Env} {R : Room} {s : State} {m : MethodId} {args : Array Value} {below : List Frame} {meth : Method} {c : Code} {y : MethodName} {bytes : ByteArray} {maxL : Nat} {ret : Option FieldType} {n0 : Nat} {Q : Option Value → Heap → Prop} {h : Heap} {k n : Nat} {g g' : JFrame} {a0 : Array Value}
theorem Wk.more {k' n' : Nat} (q1 : k ≤ k') (q2 : n ≤ n') (H : Wk W p l e R s m args below meth c n0 Q h k' n' g) : Wk W p l e R s m args below meth c n0 Q h k n g :=
  fun T L vm0 X B eT N => H T L vm0 (X.more q1 q2) B eT N
theorem Wk.st (f : ∀ {T : State} {L : List Loc} {vm0 : Vm}, Stand p l e R (s.setVm vm0) m args below meth c T L k n → ∀ t, Steps p.tables e below (T.setTop g') t → Steps p.tables e below (T.setTop g) t)
    (H : Wk W p l e R s m args below meth c n0 Q h k n g') : Wk W p l e R s m args below meth c n0 Q h k n g := by
  intro T L vm0 X B eT N
  obtain ⟨s₂, o, h1, h2⟩ := H T L vm0 X B eT N
  exact ⟨s₂, o, f X _ h1, h2⟩
/-- a step that needs the tables (as they stand at vm0) and the heap, and leaves the heap -/
theorem Wk.stZ (C : Cx Z p s m meth c y bytes maxL ret) (f : ∀ {T : State} {L : List Loc} {vm0 : Vm}, Stand p l e R (s.setVm vm0) m args below meth c T L k n → Z.Warmed39 (s.setVm vm0).vm → (s.setVm vm0).vm.findClass y.cls = some m.cls → T.heap = h → ∃ T', Stand p l e R (s.setVm vm0) m args below meth c T' L k n ∧ T'.heap = h ∧ ∀ t, Steps p.tables e below (T'.setTop g') t → Steps p.tables e below (T.setTop g) t)
    (H : Wk W p l e R s m args below meth c n0 Q h k n g') : Wk W p l e R s m args below meth c n0 Q h k n g := by
  intro T L vm0 X B eT N
  obtain ⟨T', X', e', st⟩ := f X (C.wZ B) (C.wo B) eT
  obtain ⟨s₂, o, h1, h2⟩ := H T' L vm0 X' B e' N
  exact ⟨s₂, o, st _ h1, h2⟩
/-- a step that writes one place of a new cell -/
theorem Wk.stW (C : Cx Z p s m meth c y bytes maxL ret) {a : Addr} {sl : Nat} {v : Value} (ge : n0 ≤ a) (f : ∀ {T : State} {L : List Loc} {vm0 : Vm}, Stand p l e R (s.setVm vm0) m args below meth c T L k n → Z.Warmed39 (s.setVm vm0).vm → (s.setVm vm0).vm.findClass y.cls = some m.cls → T.heap = h → ∃ T' h', Stand p l e R (s.setVm vm0) m args below meth c T' (L ++ [⟨a, sl⟩]) k n ∧ T'.heap = h' ∧ Wr h h' a sl v ∧ ∀ t, Steps p.tables e below (T'.setTop g') t → Steps p.tables e below (T.setTop g) t)
    (H : ∀ h', Wr h h' a sl v → Wk W p l e R s m args below meth c n0 Q h' k n g') : Wk W p l e R s m args below meth c n0 Q h k n g := by
  intro T L vm0 X B eT N
  obtain ⟨T', h', X', e', Wh, st⟩ := f X (C.wZ B) (C.wo B) eT
  obtain ⟨s₂, o, h1, h2⟩ := H h' Wh T' _ vm0 X' (B.mono (Nat.le_of_eq Wh.size.symm)) e' (Fr.snoc X' N ge)
  exact ⟨s₂, o, st _ h1, h2⟩
theorem Wk.ldcI (C : Cx Z p s m meth c y bytes maxL ret) {index : Nat} {v : Int32} (w : (Cond.constant y.cls index v).before a0 Z = true) {pc : Nat} {Ls : Array Slot} {st : List Value} (hd : decode bytes pc = .ok (.ldc index, 2))
    (H : Wk W p l e R s m args below meth c n0 Q h k n (mkF m (pc + 2) Ls (.int v :: st))) : Wk W p l e R s m args below meth c n0 Q h k n (mkF m pc Ls st) :=
  Wk.stZ C (fun X hZ ho eT => ⟨_, X, eT, fun t q => X.ldcI C.hx ho (mvT hZ w) rfl (hb C.hby hd) q⟩) H
theorem Wk.ldc2J (C : Cx Z p s m meth c y bytes maxL ret) {index : Nat} {v : Int64} (w : (Cond.constantLong y.cls index v).before a0 Z = true) {pc : Nat} {Ls : Array Slot} {st : List Value} (hd : decode bytes pc = .ok (.ldc2_w index, 3))
    (H : Wk W p l e R s m args below meth c n0 Q h k n (mkF m (pc + 3) Ls (.long v :: st))) : Wk W p l e R s m args below meth c n0 Q h k n (mkF m pc Ls st) :=
  Wk.stZ C (fun X hZ ho eT => ⟨_, X, eT, fun t q => X.ldc2J C.hx ho (mvT hZ w) rfl (hb C.hby hd) q⟩) H
theorem Wk.getS (C : Cx Z p s m meth c y bytes maxL ret) {O nm d : String} {index : Nat} (w : (Cond.fieldLink y.cls index O nm d).before a0 Z = true) {v : Value} (F : Sta Z h O nm d v) {pc : Nat} {Ls : Array Slot} {st : List Value} (hd : decode bytes pc = .ok (.getstatic index, 3))
    (H : Wk W p l e R s m args below meth c n0 Q h k n (mkF m (pc + 3) Ls (v :: st))) : Wk W p l e R s m args below meth c n0 Q h k n (mkF m pc Ls st) :=
  Wk.stZ C (fun X hZ ho eT => Jvm.RoadKit.getS (host := "") X C.hx hZ ho w Via.refl eT F (g := mkF m pc Ls st) rfl (hb C.hby hd)) H
theorem Wk.getF (C : Cx Z p s m meth c y bytes maxL ret) {R0 O nm d : String} {index : Nat} (w : (Cond.fieldLink y.cls index R0 nm d).before a0 Z = true) (via : Via Z R0 O nm d) {a : Addr} {v : Value} (F : Fld Z h a O nm d v) {pc : Nat} {Ls : Array Slot} {st : List Value} (hd : decode bytes pc = .ok (.getfield index, 3))
    (H : Wk W p l e R s m args below meth c n0 Q h k n (mkF m (pc + 3) Ls (v :: st))) : Wk W p l e R s m args below meth c n0 Q h k n (mkF m pc Ls (.ref a :: st)) :=
  Wk.stZ C (fun X hZ ho eT => Jvm.RoadKit.getF (host := "") X C.hx hZ ho (Or.inl w) via eT F (g := mkF m pc Ls (.ref a :: st)) rfl rfl (hb C.hby hd)) H
theorem Wk.putF (C : Cx Z p s m meth c y bytes maxL ret) {R0 O nm d K : String} {index kk : Nat} {ty : FieldType} (w : (Cond.fieldLink y.cls index R0 nm d).before a0 Z = true) (via : Via Z R0 O nm d) {a : Addr} {v v' old : Value} (F : Fld Z h a O nm d old) (E : Exa Z h a K)
    (L : (Cond.lays K O nm d).before a0 Z = true ∨ ((Cond.laysFinal K O nm d).before a0 Z = true ∧ y.cls = O ∧ y.name = "<init>")) (wi : (Cond.instantiable K kk).before a0 Z = true) (hty : parseFieldDescriptor d = some ty) (hn : narrow ty v = v') (hf : fits ty v' = true) (ge : n0 ≤ a)
    {pc : Nat} {Ls : Array Slot} {st : List Value} (hd : decode bytes pc = .ok (.putfield index, 3))
    (H : ∀ h', Wr h h' a (Jvm.RoadKit.slotOf Z O nm d) v' → Wk W p l e R s m args below meth c n0 Q h' k n (mkF m (pc + 3) Ls st)) : Wk W p l e R s m args below meth c n0 Q h k n (mkF m pc Ls (v :: .ref a :: st)) :=
  Wk.stW C ge (fun X hZ ho eT => Jvm.RoadKit.putFN X C.hx hZ ho w via eT F E (L.imp id fun q => ⟨q.1, q.2.1, C.hnm.trans q.2.2⟩) wi hty hn hf (g := mkF m pc Ls (v :: .ref a :: st)) rfl rfl (hb C.hby hd)) H
theorem Wk.newO (C : Cx Z p s m meth c y bytes maxL ret) {K : String} {index sz : Nat} (w : (Cond.classLink y.cls index K).before a0 Z = true) (wi : (Cond.instantiable K sz).before a0 Z = true) (wz : (Cond.initialized K).before a0 Z = true) {pc : Nat} {Ls : Array Slot} {st : List Value} (hd : decode bytes pc = .ok (.new index, 3)) (hc : k + 1 ≤ R.cells) (hl : n + sz ≤ R.slots)
    (H : ∀ h' a, a = h.size → Ext h h' → Exa Z h' a K → (∀ {O nm d : String} {ty : FieldType}, Laid Z a0 K O nm d → parseFieldDescriptor d = some ty → Fld Z h' a O nm d (defaultValue ty)) → Wk W p l e R s m args below meth c n0 Q h' (k + 1) (n + sz) (mkF m (pc + 3) Ls (.ref a :: st))) :
    Wk W p l e R s m args below meth c n0 Q h k n (mkF m pc Ls st) := by
  intro T L vm0 X B eT N
  obtain ⟨T', h', X', e', E, A, D, -, st⟩ := Jvm.RoadKit.newO X C.hx (C.wZ B) (C.wo B) w wi wz eT (g := mkF m pc Ls st) rfl (hb C.hby hd) hc hl
  obtain ⟨s₂, o, h1, h2⟩ := H h' _ rfl E A D T' L vm0 X' (B.mono E.1) e' N
  exact ⟨s₂, o, st _ h1, h2⟩
theorem Wk.newP (C : Cx Z p s m meth c y bytes maxL ret) {aty : ArrayType} (w : (Cond.arrayClass (newarray.typeOf aty)).before a0 Z = true) {z : Int32} (hz : ¬ z < 0) {cap : Nat} (hcap : z.toNatClampNeg ≤ cap) (hbig : cap * 8 ≤ 536870912) {pc : Nat} {Ls : Array Slot} {st : List Value} (hd : decode bytes pc = .ok (.newarray aty, 2)) (hc : k + 1 ≤ R.cells) (hl : n + cap ≤ R.slots)
    (H : ∀ h' a cA, a = h.size → Ext h h' → Arr Z h' a (newA cA (newarray.typeOf aty) z) (newarray.typeOf aty) → Wk W p l e R s m args below meth c n0 Q h' (k + 1) (n + cap) (mkF m (pc + 2) Ls (.ref a :: st))) :
    Wk W p l e R s m args below meth c n0 Q h k n (mkF m pc Ls (.int z :: st)) := by
  intro T L vm0 X B eT N
  obtain ⟨T', h', cA, X', e', E, A, st⟩ := Jvm.RoadKit.newP X C.hx (C.wZ B) w eT (g := mkF m pc Ls (.int z :: st)) rfl (hb C.hby hd) rfl hz hcap hbig hc hl
  obtain ⟨s₂, o, h1, h2⟩ := H h' _ cA rfl E A T' L vm0 X' (B.mono E.1) e' N
  exact ⟨s₂, o, st _ h1, h2⟩
theorem Wk.newR (C : Cx Z p s m meth c y bytes maxL ret) {K : String} {index : Nat} (w1 : (Cond.classLink y.cls index K).before a0 Z = true) (w2 : (Cond.arrayOver (.object K)).before a0 Z = true) {z : Int32} (hz : ¬ z < 0) {cap : Nat} (hcap : z.toNatClampNeg ≤ cap) (hbig : cap * 8 ≤ 536870912) {pc : Nat} {Ls : Array Slot} {st : List Value} (hd : decode bytes pc = .ok (.anewarray index, 3)) (hc : k + 1 ≤ R.cells) (hl : n + cap ≤ R.slots)
    (H : ∀ h' a cA, a = h.size → Ext h h' → Arr Z h' a (newA cA (.object K) z) (.object K) → Ovr Z cA K → Wk W p l e R s m args below meth c n0 Q h' (k + 1) (n + cap) (mkF m (pc + 3) Ls (.ref a :: st))) :
    Wk W p l e R s m args below meth c n0 Q h k n (mkF m pc Ls (.int z :: st)) := by
  intro T L vm0 X B eT N
  obtain ⟨T', h', cA, X', e', E, A, O, st⟩ := Jvm.RoadKit.newR X C.hx (C.wZ B) (C.wo B) w1 w2 eT (g := mkF m pc Ls (.int z :: st)) rfl (hb C.hby hd) rfl hz hcap hbig hc hl
  obtain ⟨s₂, o, h1, h2⟩ := H h' _ cA rfl E A O T' L vm0 X' (B.mono E.1) e' N
  exact ⟨s₂, o, st _ h1, h2⟩
theorem Wk.stI (C : Cx Z p s m meth c y bytes maxL ret) {a : Addr} {cl : Cell} (A : Arr Z h a cl .int) {j x : Int32} (hj : ¬ (j < 0 ∨ cl.slots.size ≤ j.toNatClampNeg)) (ge : n0 ≤ a) {pc : Nat} {Ls : Array Slot} {st : List Value} (hd : decode bytes pc = .ok (.iastore, 1))
    (H : ∀ h', Wr h h' a j.toNatClampNeg (.int x) → Wk W p l e R s m args below meth c n0 Q h' k n (mkF m (pc + 1) Ls st)) : Wk W p l e R s m args below meth c n0 Q h k n (mkF m pc Ls (.int x :: .int j :: .ref a :: st)) :=
  Wk.stW C ge (fun X hZ ho eT => Jvm.RoadKit.stI X C.hx hZ eT A hj (g := mkF m pc Ls (.int x :: .int j :: .ref a :: st)) rfl rfl (hb C.hby hd)) H
theorem Wk.stJ (C : Cx Z p s m meth c y bytes maxL ret) {a : Addr} {cl : Cell} (A : Arr Z h a cl .long) {j : Int32} {x : Int64} (hj : ¬ (j < 0 ∨ cl.slots.size ≤ j.toNatClampNeg)) (ge : n0 ≤ a) {pc : Nat} {Ls : Array Slot} {st : List Value} (hd : decode bytes pc = .ok (.lastore, 1))
    (H : ∀ h', Wr h h' a j.toNatClampNeg (.long x) → Wk W p l e R s m args below meth c n0 Q h' k n (mkF m (pc + 1) Ls st)) : Wk W p l e R s m args below meth c n0 Q h k n (mkF m pc Ls (.long x :: .int j :: .ref a :: st)) :=
  Wk.stW C ge (fun X hZ ho eT => Jvm.RoadKit.stJ X C.hx hZ eT A hj (g := mkF m pc Ls (.long x :: .int j :: .ref a :: st)) rfl rfl (hb C.hby hd)) H
theorem Wk.stR (C : Cx Z p s m meth c y bytes maxL ret) {a : Addr} {cl : Cell} {ty : FieldType} (A : Arr Z h a cl ty) {j : Int32} {v : Value} (hj : ¬ (j < 0 ∨ cl.slots.size ≤ j.toNatClampNeg)) (hty : ty.isReference = true) (F : Sto Z h a v) (ge : n0 ≤ a) {pc : Nat} {Ls : Array Slot} {st : List Value} (hd : decode bytes pc = .ok (.aastore, 1))
    (H : ∀ h', Wr h h' a j.toNatClampNeg v → Wk W p l e R s m args below meth c n0 Q h' k n (mkF m (pc + 1) Ls st)) : Wk W p l e R s m args below meth c n0 Q h k n (mkF m pc Ls (v :: .int j :: .ref a :: st)) :=
  Wk.stW C ge (fun X hZ ho eT => Jvm.RoadKit.stR X C.hx hZ eT A hj hty F (g := mkF m pc Ls (v :: .int j :: .ref a :: st)) rfl rfl (hb C.hby hd)) H
theorem Wk.len (C : Cx Z p s m meth c y bytes maxL ret) {a : Addr} {cl : Cell} {ty : FieldType} (A : Arr Z h a cl ty) {pc : Nat} {Ls : Array Slot} {st : List Value} (hd : decode bytes pc = .ok (.arraylength, 1))
    (H : Wk W p l e R s m args below meth c n0 Q h k n (mkF m (pc + 1) Ls (.int cl.slots.size.toInt32 :: st))) : Wk W p l e R s m args below meth c n0 Q h k n (mkF m pc Ls (.ref a :: st)) :=
  Wk.stZ C (fun X hZ ho eT => ⟨_, X, eT, X.arraylength C.hx (by rw [eT]; exact A.1) (State.isArrayOf_alike hZ.alike A.2.1) (g := mkF m pc Ls (.ref a :: st)) rfl rfl (hb C.hby hd)⟩) H
theorem Wk.ldI (C : Cx Z p s m meth c y bytes maxL ret) {a : Addr} {cl : Cell} (A : Arr Z h a cl .int) {j : Int32} {v : Value} (hj : ¬ (j < 0 ∨ cl.slots.size ≤ j.toNatClampNeg)) (hv : cl.slots[j.toNatClampNeg]? = some v) {pc : Nat} {Ls : Array Slot} {st : List Value} (hd : decode bytes pc = .ok (.iaload, 1))
    (H : Wk W p l e R s m args below meth c n0 Q h k n (mkF m (pc + 1) Ls (v :: st))) : Wk W p l e R s m args below meth c n0 Q h k n (mkF m pc Ls (.int j :: .ref a :: st)) :=
  Wk.stZ C (fun X hZ ho eT => ⟨_, X, eT, X.iaload C.hx (by rw [eT]; exact A.1) (State.isArrayOf_alike hZ.alike A.2.1) A.2.2 hj hv (g := mkF m pc Ls (.int j :: .ref a :: st)) rfl rfl (hb C.hby hd)⟩) H
theorem Wk.ldJ (C : Cx Z p s m meth c y bytes maxL ret) {a : Addr} {cl : Cell} (A : Arr Z h a cl .long) {j : Int32} {v : Value} (hj : ¬ (j < 0 ∨ cl.slots.size ≤ j.toNatClampNeg)) (hv : cl.slots[j.toNatClampNeg]? = some v) {pc : Nat} {Ls : Array Slot} {st : List Value} (hd : decode bytes pc = .ok (.laload, 1))
    (H : Wk W p l e R s m args below meth c n0 Q h k n (mkF m (pc + 1) Ls (v :: st))) : Wk W p l e R s m args below meth c n0 Q h k n (mkF m pc Ls (.int j :: .ref a :: st)) :=
  Wk.stZ C (fun X hZ ho eT => ⟨_, X, eT, X.laload C.hx (by rw [eT]; exact A.1) (State.isArrayOf_alike hZ.alike A.2.1) A.2.2 hj hv (g := mkF m pc Ls (.int j :: .ref a :: st)) rfl rfl (hb C.hby hd)⟩) H
theorem Wk.ldR (C : Cx Z p s m meth c y bytes maxL ret) {a : Addr} {cl : Cell} {ty : FieldType} (A : Arr Z h a cl ty) (hty : ty.isReference = true) {j : Int32} {v : Value} (hj : ¬ (j < 0 ∨ cl.slots.size ≤ j.toNatClampNeg)) (hv : cl.slots[j.toNatClampNeg]? = some v) {pc : Nat} {Ls : Array Slot} {st : List Value} (hd : decode bytes pc = .ok (.aaload, 1))
    (H : Wk W p l e R s m args below meth c n0 Q h k n (mkF m (pc + 1) Ls (v :: st))) : Wk W p l e R s m args below meth c n0 Q h k n (mkF m pc Ls (.int j :: .ref a :: st)) :=
  Wk.stZ C (fun X hZ ho eT => ⟨_, X, eT, X.aaload C.hx (by rw [eT]; exact A.1) (State.isArrayOf_alike hZ.alike A.2.1) hty A.2.2 hj hv (g := mkF m pc Ls (.int j :: .ref a :: st)) rfl rfl (hb C.hby hd)⟩) H
theorem Wk.ldZ (C : Cx Z p s m meth c y bytes maxL ret) {a : Addr} {cl : Cell} (A : Arr Z h a cl .boolean) {j : Int32} {v : Value} (hj : ¬ (j < 0 ∨ cl.slots.size ≤ j.toNatClampNeg)) (hv : cl.slots[j.toNatClampNeg]? = some v) {pc : Nat} {Ls : Array Slot} {st : List Value} (hd : decode bytes pc = .ok (.baload, 1))
    (H : Wk W p l e R s m args below meth c n0 Q h k n (mkF m (pc + 1) Ls (v :: st))) : Wk W p l e R s m args below meth c n0 Q h k n (mkF m pc Ls (.int j :: .ref a :: st)) :=
  Wk.stZ C (fun X hZ ho eT => ⟨_, X, eT, X.baloadBooleans C.hx (by rw [eT]; exact A.1) (State.isArrayOf_alike hZ.alike A.2.1) A.2.2 hj hv (g := mkF m pc Ls (.int j :: .ref a :: st)) rfl rfl (hb C.hby hd)⟩) H
theorem Wk.stZb (C : Cx Z p s m meth c y bytes maxL ret) {a : Addr} {cl : Cell} (A : Arr Z h a cl .boolean) {j x : Int32} (hj : ¬ (j < 0 ∨ cl.slots.size ≤ j.toNatClampNeg)) (ge : n0 ≤ a) {pc : Nat} {Ls : Array Slot} {st : List Value} (hd : decode bytes pc = .ok (.bastore, 1))
    (H : ∀ h', Wr h h' a j.toNatClampNeg (.int (nar .boolean x)) → Wk W p l e R s m args below meth c n0 Q h' k n (mkF m (pc + 1) Ls st)) : Wk W p l e R s m args below meth c n0 Q h k n (mkF m pc Ls (.int x :: .int j :: .ref a :: st)) :=
  Wk.stW C ge (fun X hZ ho eT => Jvm.RoadKit.stZ X C.hx hZ eT A hj (g := mkF m pc Ls (.int x :: .int j :: .ref a :: st)) rfl rfl (hb C.hby hd)) H
theorem Wk.stB (C : Cx Z p s m meth c y bytes maxL ret) {a : Addr} {cl : Cell} (A : Arr Z h a cl .byte) {j x : Int32} (hj : ¬ (j < 0 ∨ cl.slots.size ≤ j.toNatClampNeg)) (ge : n0 ≤ a) {pc : Nat} {Ls : Array Slot} {st : List Value} (hd : decode bytes pc = .ok (.bastore, 1))
    (H : ∀ h', Wr h h' a j.toNatClampNeg (.int (nar .byte x)) → Wk W p l e R s m args below meth c n0 Q h' k n (mkF m (pc + 1) Ls st)) : Wk W p l e R s m args below meth c n0 Q h k n (mkF m pc Ls (.int x :: .int j :: .ref a :: st)) :=
  Wk.stW C ge (fun X hZ ho eT => Jvm.RoadKit.stB X C.hx hZ eT A hj (g := mkF m pc Ls (.int x :: .int j :: .ref a :: st)) rfl rfl (hb C.hby hd)) H
theorem Wk.stC (C : Cx Z p s m meth c y bytes maxL ret) {a : Addr} {cl : Cell} (A : Arr Z h a cl .char) {j x : Int32} (hj : ¬ (j < 0 ∨ cl.slots.size ≤ j.toNatClampNeg)) (ge : n0 ≤ a) {pc : Nat} {Ls : Array Slot} {st : List Value} (hd : decode bytes pc = .ok (.castore, 1))
    (H : ∀ h', Wr h h' a j.toNatClampNeg (.int (nar .char x)) → Wk W p l e R s m args below meth c n0 Q h' k n (mkF m (pc + 1) Ls st)) : Wk W p l e R s m args below meth c n0 Q h k n (mkF m pc Ls (.int x :: .int j :: .ref a :: st)) :=
  Wk.stW C ge (fun X hZ ho eT => Jvm.RoadKit.stC X C.hx hZ eT A hj (g := mkF m pc Ls (.int x :: .int j :: .ref a :: st)) rfl rfl (hb C.hby hd)) H
theorem Wk.initO (C : Cx Z p s m meth c y bytes maxL ret) {index : Nat} (w1 : (Cond.methodLink y.cls index Lib.objectInit).before a0 Z = true) (w2 : (Cond.instanceMethod Lib.objectInit).before a0 Z = true) (w3 : (Cond.code Lib.objectInit ⟨#[0xb1]⟩ 1 none).before a0 Z = true) {a : Addr} {w : Nat} {pc : Nat} {Ls : Array Slot} {st : List Value} (hls : Ls.size = maxL) (hd : decode bytes pc = .ok (.invokespecial index, 3)) (hf : 1 ≤ R.frames) (hw : (st.map fun v => v.category).sum ≤ w) (hl : w + 12 ≤ R.locals)
    (H : Wk W p l e R s m args below meth c n0 Q h k n (mkF m (pc + 3) Ls st)) : Wk W p l e R s m args below meth c n0 Q h k n (mkF m pc Ls (.ref a :: st)) :=
  Wk.stZ C (fun X hZ ho eT => Jvm.RoadKit.initO X C.hx hZ ho w1 w2 w3 eT (g := mkF m pc Ls (.ref a :: st)) rfl (hls.trans C.hml.symm) rfl (hb C.hby hd) hf (W := w) (by show 2 * 0 + _ ≤ _; omega) hl) H
theorem Wk.retV (C : Cx Z p s m meth c y bytes maxL ret) {pc : Nat} {Ls : Array Slot} {w : Value} {t : FieldType} {i : Instr} {rest : List Value} (ht : ret = some t) (hn : narrow t w = w)
    (hi : (i = .ireturn ∧ (t = .int ∨ t = .boolean ∨ t = .byte ∨ t = .char ∨ t = .short) ∧ ∃ z, w = .int z) ∨ (i = .lreturn ∧ t = .long ∧ ∃ z, w = .long z) ∨ (i = .dreturn ∧ t = .double ∧ ∃ z, w = .double z) ∨ (i = .freturn ∧ t = .float ∧ ∃ z, w = .float z) ∨ (i = .areturn ∧ t.isReference = true ∧ w.isRef = true))
    (hd : decode bytes pc = .ok (i, 1)) (hk : k ≤ R.cells) (hs : n ≤ R.slots) (hq : Q (some w) h) : Wk W p l e R s m args below meth c n0 Q h k n (mkF m pc Ls (w :: rest)) := by
  intro T L vm0 X B eT N
  have hlk := C.hlk
  have hv : meth.sig.returnType = none → (some w : Option Value) = none := fun h => by rw [C.hret, ht] at h; cases h
  cases W
  · cases (B : vm0 = s.vm)
    obtain ⟨fs, hr, hrun, hended, hW, hsame⟩ := Stand.leave (s := s) X (v := some w) hv hlk
    refine ⟨_, _, retOut X C.hx (C.hret.trans ht) hn hi (hb C.hby hd) hr, hrun, hended, _, L, rfl, ⟨?_, N⟩, ⟨_, rfl⟩, hW, hsame.mono hk hs⟩
    show Q (some w) T.heap
    rw [eT]; exact hq
  · obtain ⟨k0, hS, hk0⟩ := (B : ∃ k0, s.Since vm0 k0 ∧ k0 ≤ h.size)
    obtain ⟨fs, hr, hrun, hended, hE⟩ := X.leaveW hS (by rw [eT]; exact hk0) (v := some w) hv hlk
    refine ⟨_, _, retOut X C.hx (C.hret.trans ht) hn hi (hb C.hby hd) hr, hrun, hended, _, L, rfl, ⟨?_, N⟩, hE.1, hE.2.1, hE.2.2.1, hE.2.2.2.mono hk hs⟩
    show Q (some w) T.heap
    rw [eT]; exact hq
theorem Wk.retN0 (C : Cx Z p s m meth c y bytes maxL ret) {pc : Nat} {Ls : Array Slot} (ht : ret = none) (hd : decode bytes pc = .ok (.return_, 1)) (hk : k ≤ R.cells) (hs : n ≤ R.slots) (hq : Q none h) : Wk W p l e R s m args below meth c n0 Q h k n (mkF m pc Ls []) := by
  intro T L vm0 X B eT N
  have hlk := C.hlk
  have hv : meth.sig.returnType = none → (none : Option Value) = none := fun _ => rfl
  cases W
  · cases (B : vm0 = s.vm)
    obtain ⟨fs, hr, hrun, hended, hW, hsame⟩ := Stand.leave (s := s) X (v := none) hv hlk
    refine ⟨_, _, X.returnOut C.hx (C.hret.trans ht) (hb C.hby hd) hr, hrun, hended, _, L, rfl, ⟨?_, N⟩, ⟨_, rfl⟩, hW, hsame.mono hk hs⟩
    show Q none T.heap
    rw [eT]; exact hq
  · obtain ⟨k0, hS, hk0⟩ := (B : ∃ k0, s.Since vm0 k0 ∧ k0 ≤ h.size)
    obtain ⟨fs, hr, hrun, hended, hE⟩ := X.leaveW hS (by rw [eT]; exact hk0) (v := none) hv hlk
    refine ⟨_, _, X.returnOut C.hx (C.hret.trans ht) (hb C.hby hd) hr, hrun, hended, _, L, rfl, ⟨?_, N⟩, hE.1, hE.2.1, hE.2.2.1, hE.2.2.2.mono hk hs⟩
    show Q none T.heap
    rw [eT]; exact hq
/-- the three calls, by the callee's contract -/
theorem Wk.callS (C : Cx Z p s m meth c y bytes maxL ret) {z : MethodName} {index : Nat} {bz : ByteArray} {mz : Nat} {rz : Option FieldType} {rm : Room} {asL : List Value} {Qz : Option Value → Heap → Prop}
    (w1 : (Cond.methodLink y.cls index z).before a0 Z = true) (w2 : (Cond.static z).before a0 Z = true) (w3 : (Cond.initialized z.cls).before a0 Z = true) (w4 : (Cond.code z bz mz rz).before a0 Z = true)
    (hz : z.cls ≠ "java/lang/invoke/MethodHandle" ∧ z.cls ≠ "java/lang/invoke/VarHandle") (M : Met W l Z n0 z bz mz rz rm asL.toArray h Qz) {w : Nat} (hf : rm.frames + 1 ≤ R.frames) (hl : w + (mz + 11) + rm.locals ≤ R.locals)
    {ps : List FieldType} {r : Option FieldType} (hlen : parseMethodDescriptor z.desc = some ⟨ps, r⟩) (hps : asL.length = ps.length) {pc : Nat} {Ls : Array Slot} {st rest : List Value} (hls : Ls.size = maxL) (hst : st = asL.reverse ++ rest) (hw : (rest.map fun v => v.category).sum ≤ w)
    (hc : k + rm.cells ≤ R.cells) (hs : n + rm.slots ≤ R.slots) (hd : decode bytes pc = .ok (.invokestatic index, 3))
    (H : ∀ v h', Qz v h' → Wk W p l e R s m args below meth c n0 Q h' (k + rm.cells) (n + rm.slots) (mkF m (pc + 3) Ls (v.toList ++ rest))) : Wk W p l e R s m args below meth c n0 Q h k n (mkF m pc Ls st) := by
  intro T L vm0 X B eT N
  subst hst
  have hZ := C.wZ B
  have ho := C.wo B
  have hw' : 2 * (mkF m pc Ls (asL.reverse ++ rest)).monitorRoom + (rest.map fun v => v.category).sum ≤ w := by show 2 * 0 + _ ≤ _; omega
  cases W
  · obtain ⟨v, vm₁, ⟨T', L', k', n'⟩, -, X', ⟨Lc, hQ, l1, y1, z1⟩, st⟩ := Jvm.LawKit.callS X C.hx ho (mvT hZ w1) (mvT hZ w2) (mvT hZ w3) (mvT hZ w4) hz (backOf (W := w) (Q := fun v h L => Qz v h ∧ Fr n0 L) (M []) hZ w4 w3 hf hl) (g := mkF m pc Ls (asL.reverse ++ rest)) rfl (hls.trans C.hml.symm) (argsL := asL) (rest := rest) (lenOf hlen hps) rfl hw' (hb C.hby hd) (fun _ _ => ⟨rfl, eT, hc, hs⟩)
    dsimp only [Pt.U, Pt.locs, Pt.cells, Pt.slots] at X' l1 y1 z1 st hQ
    subst l1 y1 z1
    obtain ⟨s₂, o, h1, h2⟩ := H v T'.heap hQ.1 T' _ vm0 X' (B : vm0 = s.vm) rfl (N.app hQ.2)
    exact ⟨s₂, o, st _ h1, h2⟩
  · obtain ⟨v, vm₁, ⟨T', L', k', n'⟩, -, X', hS', hgr, ⟨Lc, hQ, l1, y1, z1⟩, st⟩ := callSS X C.hx ho (mvT hZ w1) (mvT hZ w2) (mvT hZ w3) (mvT hZ w4) hz (backOfS (W := w) (Q := fun v h L => Qz v h ∧ Fr n0 L) (M []) hZ w4 w3 hf hl) (g := mkF m pc Ls (asL.reverse ++ rest)) rfl (hls.trans C.hml.symm) (argsL := asL) (rest := rest) (lenOf hlen hps) rfl hw' (hb C.hby hd) (fun _ _ => ⟨rfl, eT, hc, hs⟩)
    dsimp only [Pt.U, Pt.locs, Pt.cells, Pt.slots] at X' hS' hgr l1 y1 z1 st hQ
    subst l1 y1 z1
    obtain ⟨k0, hS, hk0⟩ := (B : ∃ k0, s.Since vm0 k0 ∧ k0 ≤ h.size)
    obtain ⟨s₂, o, h1, h2⟩ := H v T'.heap hQ.1 T' _ T'.vm X' ⟨_, foldS hS (by rw [eT]; exact hk0) hS' hgr, Nat.le_refl _⟩ rfl (N.app hQ.2)
    exact ⟨s₂, o, st.trans h1, h2⟩
theorem Wk.callI (C : Cx Z p s m meth c y bytes maxL ret) {z : MethodName} {index : Nat} {bz : ByteArray} {mz : Nat} {rm : Room} {a : Addr} {asL : List Value} {Qz : Option Value → Heap → Prop} (hz1 : z.name = "<init>")
    (w1 : (Cond.methodLink y.cls index z).before a0 Z = true) (w2 : (Cond.instanceMethod z).before a0 Z = true) (w3 : (Cond.initialized z.cls).before a0 Z = true) (w4 : (Cond.code z bz mz none).before a0 Z = true)
    (hz : z.cls ≠ "java/lang/invoke/MethodHandle" ∧ z.cls ≠ "java/lang/invoke/VarHandle") (M : Met W l Z n0 z bz mz none rm (.ref a :: asL).toArray h Qz) {w : Nat} (hf : rm.frames + 1 ≤ R.frames) (hl : w + (mz + 11) + rm.locals ≤ R.locals)
    {ps : List FieldType} {r : Option FieldType} (hlen : parseMethodDescriptor z.desc = some ⟨ps, r⟩) (hps : asL.length = ps.length) {pc : Nat} {Ls : Array Slot} {st rest : List Value} (hls : Ls.size = maxL) (hst : st = asL.reverse ++ .ref a :: rest) (hw : (rest.map fun v => v.category).sum ≤ w)
    (hc : k + rm.cells ≤ R.cells) (hs : n + rm.slots ≤ R.slots) (hd : decode bytes pc = .ok (.invokespecial index, 3))
    (H : ∀ v h', Qz v h' → Wk W p l e R s m args below meth c n0 Q h' (k + rm.cells) (n + rm.slots) (mkF m (pc + 3) Ls (v.toList ++ rest))) : Wk W p l e R s m args below meth c n0 Q h k n (mkF m pc Ls st) := by
  intro T L vm0 X B eT N
  subst hst
  have hZ := C.wZ B
  have ho := C.wo B
  have hw' : 2 * (mkF m pc Ls (asL.reverse ++ .ref a :: rest)).monitorRoom + (rest.map fun v => v.category).sum ≤ w := by show 2 * 0 + _ ≤ _; omega
  cases W
  · obtain ⟨v, vm₁, ⟨T', L', k', n'⟩, -, X', ⟨Lc, hQ, l1, y1, z1⟩, st⟩ := X.specialBack C.hx hz1 ho (mvT hZ w1) (mvT hZ w2) (mvT hZ w4) hz (backOf (W := w) (Q := fun v h L => Qz v h ∧ Fr n0 L) (M []) hZ w4 w3 hf hl) (g := mkF m pc Ls (asL.reverse ++ .ref a :: rest)) rfl (hls.trans C.hml.symm) (Steps.refl _) (a := a) (argsL := asL) (rest := rest) (lenOf hlen hps) rfl hw' (hb C.hby hd) (fun _ _ => ⟨rfl, eT, hc, hs⟩)
    dsimp only [Pt.U, Pt.locs, Pt.cells, Pt.slots] at X' l1 y1 z1 st hQ
    subst l1 y1 z1
    obtain ⟨s₂, o, h1, h2⟩ := H v T'.heap hQ.1 T' _ vm0 X' (B : vm0 = s.vm) rfl (N.app hQ.2)
    exact ⟨s₂, o, st.trans h1, h2⟩
  · obtain ⟨v, vm₁, ⟨T', L', k', n'⟩, -, X', hS', hgr, ⟨Lc, hQ, l1, y1, z1⟩, st⟩ := X.specialBackS C.hx hz1 ho (mvT hZ w1) (mvT hZ w2) (mvT hZ w4) hz (backOfS (W := w) (Q := fun v h L => Qz v h ∧ Fr n0 L) (M []) hZ w4 w3 hf hl) (g := mkF m pc Ls (asL.reverse ++ .ref a :: rest)) rfl (hls.trans C.hml.symm) (Steps.refl _) (a := a) (argsL := asL) (rest := rest) (lenOf hlen hps) rfl hw' (hb C.hby hd) (fun _ _ => ⟨rfl, eT, hc, hs⟩)
    dsimp only [Pt.U, Pt.locs, Pt.cells, Pt.slots] at X' hS' hgr l1 y1 z1 st hQ
    subst l1 y1 z1
    obtain ⟨k0, hS, hk0⟩ := (B : ∃ k0, s.Since vm0 k0 ∧ k0 ≤ h.size)
    obtain ⟨s₂, o, h1, h2⟩ := H v T'.heap hQ.1 T' _ T'.vm X' ⟨_, foldS hS (by rw [eT]; exact hk0) hS' hgr, Nat.le_refl _⟩ rfl (N.app hQ.2)
    exact ⟨s₂, o, st.trans h1, h2⟩
theorem Wk.callV (C : Cx Z p s m meth c y bytes maxL ret) {x z : MethodName} {K : String} {index : Nat} {bz : ByteArray} {mz : Nat} {rz : Option FieldType} {rm : Room} {a : Addr} {asL : List Value} {Qz : Option Value → Heap → Prop}
    (w1 : (Cond.methodLink y.cls index x).before a0 Z = true) (w2 : (Cond.declares x).before a0 Z = true) (w5 : (Cond.selects K x z).before a0 Z = true) (w6 : (Cond.instanceMethod z).before a0 Z = true) (w3 : (Cond.initialized z.cls).before a0 Z = true) (w4 : (Cond.code z bz mz rz).before a0 Z = true)
    (hz : x.cls ≠ "java/lang/invoke/MethodHandle" ∧ x.cls ≠ "java/lang/invoke/VarHandle") (hnf : ∀ s' : State, Z.Warmed39 s'.vm → NotFace s' x) (E : Exa Z h a K) (M : Met W l Z n0 z bz mz rz rm (.ref a :: asL).toArray h Qz) {w : Nat} (hf : rm.frames + 1 ≤ R.frames) (hl : w + (mz + 11) + rm.locals ≤ R.locals)
    {ps : List FieldType} {r : Option FieldType} (hlen : parseMethodDescriptor x.desc = some ⟨ps, r⟩) (hps : asL.length = ps.length) {pc : Nat} {Ls : Array Slot} {st rest : List Value} (hls : Ls.size = maxL) (hst : st = asL.reverse ++ .ref a :: rest) (hw : (rest.map fun v => v.category).sum ≤ w)
    (hc : k + rm.cells ≤ R.cells) (hs : n + rm.slots ≤ R.slots) (hd : decode bytes pc = .ok (.invokevirtual index, 3))
    (H : ∀ v h', Qz v h' → Wk W p l e R s m args below meth c n0 Q h' (k + rm.cells) (n + rm.slots) (mkF m (pc + 3) Ls (v.toList ++ rest))) : Wk W p l e R s m args below meth c n0 Q h k n (mkF m pc Ls st) := by
  intro T L vm0 X B eT N
  subst hst
  have hZ := C.wZ B
  have ho := C.wo B
  have hw' : 2 * (mkF m pc Ls (asL.reverse ++ .ref a :: rest)).monitorRoom + (rest.map fun v => v.category).sum ≤ w := by show 2 * 0 + _ ≤ _; omega
  obtain ⟨cq, kq, qa, qb, qc⟩ := isOf hZ eT E
  cases W
  · obtain ⟨v, vm₁, ⟨T', L', k', n'⟩, -, X', ⟨Lc, hQ, l1, y1, z1⟩, st⟩ := X.virtualBack C.hx (y := x) (z := z) ho (mvT hZ w1) (mvT hZ w2) (hnf _ hZ) (mvT hZ w5) (mvT hZ w6) hz (backOf (W := w) (Q := fun v h L => Qz v h ∧ Fr n0 L) (M []) hZ w4 w3 hf hl) qa qc (g := mkF m pc Ls (asL.reverse ++ .ref a :: rest)) rfl (hls.trans C.hml.symm) (Steps.refl _) (argsL := asL) (rest := rest) (lenOf hlen hps) rfl hw' (hb C.hby hd) (fun _ _ => ⟨rfl, eT, hc, hs⟩)
    dsimp only [Pt.U, Pt.locs, Pt.cells, Pt.slots] at X' l1 y1 z1 st hQ
    subst l1 y1 z1
    obtain ⟨s₂, o, h1, h2⟩ := H v T'.heap hQ.1 T' _ vm0 X' (B : vm0 = s.vm) rfl (N.app hQ.2)
    exact ⟨s₂, o, st.trans h1, h2⟩
  · obtain ⟨v, vm₁, ⟨T', L', k', n'⟩, -, X', hS', hgr, ⟨Lc, hQ, l1, y1, z1⟩, st⟩ := X.virtualBackS C.hx (y := x) (z := z) ho (mvT hZ w1) (mvT hZ w2) (hnf _ hZ) (mvT hZ w5) (mvT hZ w6) hz (backOfS (W := w) (Q := fun v h L => Qz v h ∧ Fr n0 L) (M []) hZ w4 w3 hf hl) qa qc (g := mkF m pc Ls (asL.reverse ++ .ref a :: rest)) rfl (hls.trans C.hml.symm) (Steps.refl _) (argsL := asL) (rest := rest) (lenOf hlen hps) rfl hw' (hb C.hby hd) (fun _ _ => ⟨rfl, eT, hc, hs⟩)
    dsimp only [Pt.U, Pt.locs, Pt.cells, Pt.slots] at X' hS' hgr l1 y1 z1 st hQ
    subst l1 y1 z1
    obtain ⟨k0, hS, hk0⟩ := (B : ∃ k0, s.Since vm0 k0 ∧ k0 ≤ h.size)
    obtain ⟨s₂, o, h1, h2⟩ := H v T'.heap hQ.1 T' _ T'.vm X' ⟨_, foldS hS (by rw [eT]; exact hk0) hS' hgr, Nat.le_refl _⟩ rfl (N.app hQ.2)
    exact ⟨s₂, o, st.trans h1, h2⟩
theorem Wk.callU (C : Cx Z p s m meth c y bytes maxL ret) {x z : MethodName} {K owner : String} {index : Nat} {bz : ByteArray} {mz : Nat} {rz : Option FieldType} {rm : Room} {a : Addr} {asL : List Value} {Qz : Option Value → Heap → Prop}
    (w1 : (Cond.methodLink y.cls index x).before a0 Z = true) (w7 : (Cond.sameMethod x.cls owner x.name x.desc).before a0 Z = true) (w2 : (Cond.declares ⟨owner, x.name, x.desc⟩).before a0 Z = true) (w5 : (Cond.selects K x z).before a0 Z = true) (w6 : (Cond.instanceMethod z).before a0 Z = true) (w3 : (Cond.initialized z.cls).before a0 Z = true) (w4 : (Cond.code z bz mz rz).before a0 Z = true)
    (hz : owner ≠ "java/lang/invoke/MethodHandle" ∧ owner ≠ "java/lang/invoke/VarHandle") (E : Exa Z h a K) (M : Met W l Z n0 z bz mz rz rm (.ref a :: asL).toArray h Qz) {w : Nat} (hf : rm.frames + 1 ≤ R.frames) (hl : w + (mz + 11) + rm.locals ≤ R.locals)
    {ps : List FieldType} {r : Option FieldType} (hlen : parseMethodDescriptor x.desc = some ⟨ps, r⟩) (hps : asL.length = ps.length) {pc : Nat} {Ls : Array Slot} {st rest : List Value} (hls : Ls.size = maxL) (hst : st = asL.reverse ++ .ref a :: rest) (hw : (rest.map fun v => v.category).sum ≤ w)
    (hc : k + rm.cells ≤ R.cells) (hs : n + rm.slots ≤ R.slots) (hd : decode bytes pc = .ok (.invokevirtual index, 3))
    (H : ∀ v h', Qz v h' → Wk W p l e R s m args below meth c n0 Q h' (k + rm.cells) (n + rm.slots) (mkF m (pc + 3) Ls (v.toList ++ rest))) : Wk W p l e R s m args below meth c n0 Q h k n (mkF m pc Ls st) := by
  intro T L vm0 X B eT N
  subst hst
  have hZ := C.wZ B
  have ho := C.wo B
  have hw' : 2 * (mkF m pc Ls (asL.reverse ++ .ref a :: rest)).monitorRoom + (rest.map fun v => v.category).sum ≤ w := by show 2 * 0 + _ ≤ _; omega
  obtain ⟨cq, kq, qa, qb, qc⟩ := isOf hZ eT E
  cases W
  · obtain ⟨v, vm₁, ⟨T', L', k', n'⟩, -, X', ⟨Lc, hQ, l1, y1, z1⟩, st⟩ := X.virtualBackUp C.hx (x := x) (y := z) ho (mvT hZ w1) (mvT hZ w7) (mvT hZ w2) hz (mvT hZ w5) (mvT hZ w6) (backOf (W := w) (Q := fun v h L => Qz v h ∧ Fr n0 L) (M []) hZ w4 w3 hf hl) qa qc (g := mkF m pc Ls (asL.reverse ++ .ref a :: rest)) rfl (hls.trans C.hml.symm) (Steps.refl _) (argsL := asL) (rest := rest) (lenOf hlen hps) rfl hw' (hb C.hby hd) (fun _ _ => ⟨rfl, eT, hc, hs⟩)
    dsimp only [Pt.U, Pt.locs, Pt.cells, Pt.slots] at X' l1 y1 z1 st hQ
    subst l1 y1 z1
    obtain ⟨s₂, o, h1, h2⟩ := H v T'.heap hQ.1 T' _ vm0 X' (B : vm0 = s.vm) rfl (N.app hQ.2)
    exact ⟨s₂, o, st.trans h1, h2⟩
  · obtain ⟨v, vm₁, ⟨T', L', k', n'⟩, -, X', hS', hgr, ⟨Lc, hQ, l1, y1, z1⟩, st⟩ := X.virtualBackUpS C.hx (x := x) (y := z) ho (mvT hZ w1) (mvT hZ w7) (mvT hZ w2) hz (mvT hZ w5) (mvT hZ w6) (backOfS (W := w) (Q := fun v h L => Qz v h ∧ Fr n0 L) (M []) hZ w4 w3 hf hl) qa qc (g := mkF m pc Ls (asL.reverse ++ .ref a :: rest)) rfl (hls.trans C.hml.symm) (Steps.refl _) (argsL := asL) (rest := rest) (lenOf hlen hps) rfl hw' (hb C.hby hd) (fun _ _ => ⟨rfl, eT, hc, hs⟩)
    dsimp only [Pt.U, Pt.locs, Pt.cells, Pt.slots] at X' hS' hgr l1 y1 z1 st hQ
    subst l1 y1 z1
    obtain ⟨k0, hS, hk0⟩ := (B : ∃ k0, s.Since vm0 k0 ∧ k0 ≤ h.size)
    obtain ⟨s₂, o, h1, h2⟩ := H v T'.heap hQ.1 T' _ T'.vm X' ⟨_, foldS hS (by rw [eT]; exact hk0) hS' hgr, Nat.le_refl _⟩ rfl (N.app hQ.2)
    exact ⟨s₂, o, st.trans h1, h2⟩
theorem Wk.ldcS (C : Cx Z p s m meth c y bytes maxL ret) {index : Nat} {text : String} (w : (Cond.stringLink y.cls index text).before a0 Z = true) (wS : ∀ d ∈ Bundle.stringAtoms, d.before a0 Z = true) {N : Nat} (hn : 4 * text.toList.length ≤ N) (hbig : N ≤ 536870912) {pc : Nat} {Ls : Array Slot} {st : List Value} (hd : decode bytes pc = .ok (.ldc index, 2)) (hc : k + 2 ≤ R.cells) (hl : n + (N + 4) ≤ R.slots)
    (H : ∀ h' a, Ext h h' → Wk true p l e R s m args below meth c n0 Q h' (k + 2) (n + (N + 4)) (mkF m (pc + 2) Ls (.ref a :: st))) : Wk true p l e R s m args below meth c n0 Q h k n (mkF m pc Ls st) := by
  intro T L vm0 X B eT N'
  have hZ := C.wZ B
  have ho := C.wo B
  obtain ⟨k0, hS, hk0⟩ := (B : ∃ k0, s.Since vm0 k0 ∧ k0 ≤ h.size)
  obtain ⟨a, T', h', k1, X', e', E, hS', hk1, -, -, st⟩ := Jvm.RoadKit.ldcS X C.hx hZ ho w wS eT hS hk0 (g := mkF m pc Ls st) rfl (hb C.hby hd) hn hbig hc hl
  obtain ⟨s₂, o, h1, h2⟩ := H h' a E T' L T'.vm X' ⟨k1, hS', hk1⟩ e' N'
  exact ⟨s₂, o, st _ h1, h2⟩
end Rules
theorem ext_trans {h h' h'' : Heap} (E : Ext h h') (E' : Ext h' h'') : Ext h h'' := ⟨Nat.le_trans E.1 E'.1, fun a c q => E'.2 a c (E.2 a c q)⟩
theorem ext_refl (h : Heap) : Ext h h := ⟨Nat.le_refl _, fun _ _ q => q⟩
end Jvm.Own
namespace Jvm.Own
open Jvm Jvm.ClassFile Sem Op Lib Jvm.Free Jvm.Stand Jvm.LawKit Jvm.RoadKit
/-! statics that hold objects, told apart by a field -/
theorem stat_exa {args : Array Value} {s : State} {C n d K : String} (wi : (Cond.initialized C).before args s = true) (wl : (Cond.laysStatic C n d).before args s = true) (hx : (Cond.exactly (Term.static C n d) K).value args s none s [] = some true) :
    ∃ a, (Term.static C n d).eval args s none [] s = some (.ref a) ∧ Sta s s.heap C n d (.ref a) ∧ Exa s s.heap a K := by
  obtain ⟨a, ev⟩ := exa_v hx
  exact ⟨a, ev, Sta.start ev (Or.inr ⟨wi, wl⟩), Exa.start ev hx⟩
theorem fld_int {args : Array Value} {s : State} {t : Term} {a : Addr} {O f d : String} {i : Int32} (ev : t.eval args s none [] s = some (.ref a)) (hq : (Cond.eq (Term.field t O f d) (Term.int i)).value args s none s [] = some true) : Fld s s.heap a O f d (.int i) := by
  refine Fld.start ?_
  obtain ⟨x, y, h1, h2, k1, k2⟩ := cmp_v (Or.inl hq)
  cases (show some (Value.int i) = some y from h2)
  obtain ⟨z, rfl⟩ := k2
  have q := gotT (show (Cond.eq (Term.field t O f d) (Term.int i)).value args s none s [] = some (decide (z = i)) by simp [Cond.value, h1, h2]) hq
  subst q
  rw [fld_at ev] at h1; exact h1
theorem fld_uniq {Z : State} {h : Heap} {a : Addr} {O f d : String} {v w : Value} (F : Fld Z h a O f d v) (G : Fld Z h a O f d w) : v = w := by
  obtain ⟨c1, cf, k, i, fd, h1, h2, -, -, -, -, h7⟩ := F
  obtain ⟨c2, cf', k', i', fd', g1, g2, -, -, -, -, g7⟩ := G
  cases h1.symm.trans g1
  cases h2.symm.trans g2
  exact Option.some.inj (h7.symm.trans g7)
theorem ne_fld {Z : State} {h : Heap} {a b : Addr} {O f d : String} {v w : Value} (F : Fld Z h a O f d v) (G : Fld Z h b O f d w) (q : v ≠ w) : a ≠ b := fun e => by
  subst e; exact q (fld_uniq F G)
theorem mod_range (p k : Int32) (d : Int) (hd : k.toInt = d) (h0 : 0 < d) : 0 ≤ ((p &&& 2147483647) % k).toInt ∧ ((p &&& 2147483647) % k).toInt < d := by
  have h1 := (c_andS p 2147483647).2.2 (by decide)
  have h2 := (c_irem (p &&& 2147483647) k d hd).1 h1
  rw [h2]
  exact ⟨Int.emod_nonneg _ (by omega), Int.emod_lt_of_pos _ h0⟩
theorem mod6 (p : Int32) : (p &&& 2147483647) % 6 = 0 ∨ (p &&& 2147483647) % 6 = 1 ∨ (p &&& 2147483647) % 6 = 2 ∨ (p &&& 2147483647) % 6 = 3 ∨ (p &&& 2147483647) % 6 = 4 ∨ (p &&& 2147483647) % 6 = 5 := by
  have h := mod_range p 6 6 (by decide) (by decide)
  generalize (p &&& 2147483647) % 6 = r at h ⊢
  have q : r.toInt = 0 ∨ r.toInt = 1 ∨ r.toInt = 2 ∨ r.toInt = 3 ∨ r.toInt = 4 ∨ r.toInt = 5 := by omega
  rcases q with q | q | q | q | q | q
  · exact Or.inl (Int32.toInt_inj.mp q)
  · exact Or.inr (Or.inl (Int32.toInt_inj.mp q))
  · exact Or.inr (Or.inr (Or.inl (Int32.toInt_inj.mp q)))
  · exact Or.inr (Or.inr (Or.inr (Or.inl (Int32.toInt_inj.mp q))))
  · exact Or.inr (Or.inr (Or.inr (Or.inr (Or.inl (Int32.toInt_inj.mp q)))))
  · exact Or.inr (Or.inr (Or.inr (Or.inr (Or.inr (Int32.toInt_inj.mp q)))))
theorem mod3 (p : Int32) : (p &&& 2147483647) % 3 = 0 ∨ (p &&& 2147483647) % 3 = 1 ∨ (p &&& 2147483647) % 3 = 2 := by
  have h := mod_range p 3 3 (by decide) (by decide)
  generalize (p &&& 2147483647) % 3 = r at h ⊢
  have q : r.toInt = 0 ∨ r.toInt = 1 ∨ r.toInt = 2 := by omega
  rcases q with q | q | q
  · exact Or.inl (Int32.toInt_inj.mp q)
  · exact Or.inr (Or.inl (Int32.toInt_inj.mp q))
  · exact Or.inr (Or.inr (Int32.toInt_inj.mp q))
end Jvm.Own
namespace Jvm.Pilot.@@N@@
open Jvm Jvm.ClassFile Sem Op Lib Jvm.Free Jvm.Stand Jvm.LawKit Jvm.RoadKit Bundle Jvm.Own Jvm.Pilot.@@N@@.Jvm.D
theorem pn_0 : plainName "com/example/ample_queue/amplequeue/protocol/HeaderEncoding" = true := by first | (simp [plainName, overriddenIn]; done) | decide +kernel
theorem pn_1 : plainName "com/example/ample_queue/amplequeue/protocol/HeaderEncodingOfPinLaw" = true := by first | (simp [plainName, overriddenIn]; done) | decide +kernel
theorem pd_0 : parseMethodDescriptor "(I)Lcom/example/ample_queue/amplequeue/protocol/HeaderEncoding;" = some ⟨[.int], some (.object "com/example/ample_queue/amplequeue/protocol/HeaderEncoding")⟩ := by decide +kernel
theorem pd_1 : parseMethodDescriptor "()I" = some ⟨[], some .int⟩ := by decide +kernel
def Enm (Z : State) (h : Heap) (s_JSON s_BINARY : Addr) : Prop := Sta Z h "com/example/ample_queue/amplequeue/protocol/HeaderEncoding" "JSON" "Lcom/example/ample_queue/amplequeue/protocol/HeaderEncoding;" (.ref s_JSON) ∧ Exa Z h s_JSON "com/example/ample_queue/amplequeue/protocol/HeaderEncoding" ∧ Fld Z h s_JSON "com/example/ample_queue/amplequeue/protocol/HeaderEncoding" "code" "I" (.int (0 : Int32)) ∧ Sta Z h "com/example/ample_queue/amplequeue/protocol/HeaderEncoding" "BINARY" "Lcom/example/ample_queue/amplequeue/protocol/HeaderEncoding;" (.ref s_BINARY) ∧ Exa Z h s_BINARY "com/example/ample_queue/amplequeue/protocol/HeaderEncoding" ∧ Fld Z h s_BINARY "com/example/ample_queue/amplequeue/protocol/HeaderEncoding" "code" "I" (.int (1 : Int32))
theorem en_S_JSON {Z : State} {h : Heap} {s_JSON s_BINARY : Addr} (H : Enm Z h s_JSON s_BINARY) : Sta Z h "com/example/ample_queue/amplequeue/protocol/HeaderEncoding" "JSON" "Lcom/example/ample_queue/amplequeue/protocol/HeaderEncoding;" (.ref s_JSON) := H.1
theorem en_E_JSON {Z : State} {h : Heap} {s_JSON s_BINARY : Addr} (H : Enm Z h s_JSON s_BINARY) : Exa Z h s_JSON "com/example/ample_queue/amplequeue/protocol/HeaderEncoding" := H.2.1
theorem en_O_JSON_code {Z : State} {h : Heap} {s_JSON s_BINARY : Addr} (H : Enm Z h s_JSON s_BINARY) : Fld Z h s_JSON "com/example/ample_queue/amplequeue/protocol/HeaderEncoding" "code" "I" (.int (0 : Int32)) := H.2.2.1
theorem en_S_BINARY {Z : State} {h : Heap} {s_JSON s_BINARY : Addr} (H : Enm Z h s_JSON s_BINARY) : Sta Z h "com/example/ample_queue/amplequeue/protocol/HeaderEncoding" "BINARY" "Lcom/example/ample_queue/amplequeue/protocol/HeaderEncoding;" (.ref s_BINARY) := H.2.2.2.1
theorem en_E_BINARY {Z : State} {h : Heap} {s_JSON s_BINARY : Addr} (H : Enm Z h s_JSON s_BINARY) : Exa Z h s_BINARY "com/example/ample_queue/amplequeue/protocol/HeaderEncoding" := H.2.2.2.2.1
theorem en_O_BINARY_code {Z : State} {h : Heap} {s_JSON s_BINARY : Addr} (H : Enm Z h s_JSON s_BINARY) : Fld Z h s_BINARY "com/example/ample_queue/amplequeue/protocol/HeaderEncoding" "code" "I" (.int (1 : Int32)) := H.2.2.2.2.2
theorem Enm.ext {h' : Heap} {Z : State} {h : Heap} {s_JSON s_BINARY : Addr} (H : Enm Z h s_JSON s_BINARY) (E : Ext h h') : Enm Z h' s_JSON s_BINARY := ⟨(en_S_JSON H).ext E, (en_E_JSON H).ext E, (en_O_JSON_code H).ext E, (en_S_BINARY H).ext E, (en_E_BINARY H).ext E, (en_O_BINARY_code H).ext E⟩
theorem Enm.wr {h0 h h' : Heap} {a : Addr} {sl : Nat} {v : Value} {Z : State} {s_JSON s_BINARY : Addr} (H0 : Enm Z h0 s_JSON s_BINARY) (q : h0.size ≤ a) (H : Enm Z h s_JSON s_BINARY) (W : Wr h h' a sl v) : Enm Z h' s_JSON s_BINARY := ⟨(en_S_JSON H).wr W, (en_E_JSON H).wr W, (en_O_JSON_code H).other W (Or.inl (Nat.ne_of_lt (Nat.lt_of_lt_of_le (en_E_JSON H0).lt q))), (en_S_BINARY H).wr W, (en_E_BINARY H).wr W, (en_O_BINARY_code H).other W (Or.inl (Nat.ne_of_lt (Nat.lt_of_lt_of_le (en_E_BINARY H0).lt q)))⟩
def All (Z : State) (h : Heap) (s_ALL : Addr) (cl : Cell) (s_JSON s_BINARY : Addr) : Prop := Sta Z h "com/example/ample_queue/amplequeue/protocol/HeaderEncoding" "ALL" "[Lcom/example/ample_queue/amplequeue/protocol/HeaderEncoding;" (.ref s_ALL) ∧ Arr Z h s_ALL cl (.object "com/example/ample_queue/amplequeue/protocol/HeaderEncoding") ∧ cl.slots.size.toInt32 = (2 : Int32) ∧ (¬ ((0 : Int32) < 0 ∨ cl.slots.size ≤ (0 : Int32).toNatClampNeg) ∧ cl.slots[(0 : Int32).toNatClampNeg]? = some (.ref s_JSON)) ∧ (¬ ((1 : Int32) < 0 ∨ cl.slots.size ≤ (1 : Int32).toNatClampNeg) ∧ cl.slots[(1 : Int32).toNatClampNeg]? = some (.ref s_BINARY))
theorem len_is {args : Array Value} {s : State} {t : Term} {a : Addr} {cl : Cell} {z : Int32} {ty : FieldType} (ev : t.eval args s none [] s = some (.ref a)) (A : Arr s s.heap a cl ty) (hq : (Cond.eq (Term.length t) (Term.int z)).value args s none s [] = some true) : cl.slots.size.toInt32 = z := by
  obtain ⟨x, y, h1, h2, k1, k2⟩ := cmp_v (Or.inl hq)
  cases (show some (Value.int z) = some y from h2)
  obtain ⟨w, rfl⟩ := k2
  have q := gotT (show (Cond.eq (Term.length t) (Term.int z)).value args s none s [] = some (decide (w = z)) by simp [Cond.value, h1, h2]) hq
  subst q
  obtain ⟨x, cell, e1, e2, e3⟩ := Term.length_spec h1
  cases ev.symm.trans e1
  cases (A.fin (Vm.Alike.refl _)).symm.trans e2
  exact (Value.int.inj e3).symm
theorem elem_is {args : Array Value} {s : State} {t u : Term} {a b : Addr} {cl : Cell} {j : Int32} (ev : t.eval args s none [] s = some (.ref a)) (eu : u.eval args s none [] s = some (.ref b)) (hc : s.heap[a]? = some cl) (hq : (Cond.eq (Term.elem t (Term.int j)) u).value args s none s [] = some true) : ¬ (j < 0 ∨ cl.slots.size ≤ j.toNatClampNeg) ∧ cl.slots[j.toNatClampNeg]? = some (.ref b) := by
  obtain ⟨x, y, h1, h2, k1, k2⟩ := cmp_v (Or.inl hq)
  cases eu.symm.trans h2
  have kr : x.isRef = true := k2.2
  have q := gotT (eq_R h1 h2 kr rfl) hq
  subst q
  exact elem_in h1 ev rfl hc
theorem d1_0 : decode prog_42_method_5_code 0 = .ok (.aconst_null, 1) := by decide +kernel
theorem d1_1 : decode prog_42_method_5_code 1 = .ok (.astore_n 1, 1) := by decide +kernel
theorem d1_2 : decode prog_42_method_5_code 2 = .ok (.getstatic 33, 3) := by decide +kernel
theorem d1_5 : decode prog_42_method_5_code 5 = .ok (.astore_n 2, 1) := by decide +kernel
theorem d1_6 : decode prog_42_method_5_code 6 = .ok (.aload_n 2, 1) := by decide +kernel
theorem d1_7 : decode prog_42_method_5_code 7 = .ok (.arraylength, 1) := by decide +kernel
theorem d1_8 : decode prog_42_method_5_code 8 = .ok (.istore_n 3, 1) := by decide +kernel
theorem d1_9 : decode prog_42_method_5_code 9 = .ok (.iconst 0, 1) := by decide +kernel
theorem d1_10 : decode prog_42_method_5_code 10 = .ok (.istore 4, 2) := by decide +kernel
theorem d1_12 : decode prog_42_method_5_code 12 = .ok (.iload 4, 2) := by decide +kernel
theorem d1_14 : decode prog_42_method_5_code 14 = .ok (.iload_n 3, 1) := by decide +kernel
theorem d1_15 : decode prog_42_method_5_code 15 = .ok (.if_icmp .ge 27, 3) := by decide +kernel
theorem d1_18 : decode prog_42_method_5_code 18 = .ok (.aload_n 2, 1) := by decide +kernel
theorem d1_19 : decode prog_42_method_5_code 19 = .ok (.iload 4, 2) := by decide +kernel
theorem d1_21 : decode prog_42_method_5_code 21 = .ok (.aaload, 1) := by decide +kernel
theorem d1_22 : decode prog_42_method_5_code 22 = .ok (.astore 5, 2) := by decide +kernel
theorem d1_24 : decode prog_42_method_5_code 24 = .ok (.aload 5, 2) := by decide +kernel
theorem d1_26 : decode prog_42_method_5_code 26 = .ok (.getfield 29, 3) := by decide +kernel
theorem d1_29 : decode prog_42_method_5_code 29 = .ok (.iload_n 0, 1) := by decide +kernel
theorem d1_30 : decode prog_42_method_5_code 30 = .ok (.if_icmp .ne 6, 3) := by decide +kernel
theorem d1_33 : decode prog_42_method_5_code 33 = .ok (.aload 5, 2) := by decide +kernel
theorem d1_35 : decode prog_42_method_5_code 35 = .ok (.astore_n 1, 1) := by decide +kernel
theorem d1_36 : decode prog_42_method_5_code 36 = .ok (.iinc 4 1, 3) := by decide +kernel
theorem d1_39 : decode prog_42_method_5_code 39 = .ok (.goto (-27), 3) := by decide +kernel
theorem d1_42 : decode prog_42_method_5_code 42 = .ok (.aload_n 1, 1) := by decide +kernel
theorem d1_43 : decode prog_42_method_5_code 43 = .ok (.areturn, 1) := by decide +kernel
set_option maxRecDepth 65536 in
set_option maxHeartbeats 40000000 in
theorem own_1_0 (l : Launch) (Z : State) (a0 : Array Value) (hw : ∀ d ∈ tables_1, d.before a0 Z = true) (n0 : Nat) (h0 : Heap) (s_JSON s_BINARY : Addr) (EN : Enm Z h0 s_JSON s_BINARY) (s_ALL : Addr) (cl : Cell) (AR : All Z h0 s_ALL cl s_JSON s_BINARY) :
    Met false l Z n0 (⟨"com/example/ample_queue/amplequeue/protocol/HeaderEncoding", "of", "(I)Lcom/example/ample_queue/amplequeue/protocol/HeaderEncoding;"⟩ : MethodName) prog_42_method_5_code 6 (some (.object "com/example/ample_queue/amplequeue/protocol/HeaderEncoding")) ({ frames := 0, cells := 0, slots := 0, locals := 0 } : Room) #[(.int (0 : Int32))] h0 (fun v h => v = some (.ref s_JSON) ∧ h0 = h) := by
  refine Met.of pn_0 #[.val (.int (0 : Int32)), .unset, .unset, .unset, .unset, .unset] (fun m => by first | (simp [entryFrame, mkF, argsToLocals, Value.category]; done) | rfl) ?_
  intro p e s m below meth c C
  refine Wk.st (g' := (mkF m 1 #[.val (.int (0 : Int32)), .unset, .unset, .unset, .unset, .unset] [.null])) (fun X t q => XS.aconstNull X.here C.hx rfl (hb C.hby d1_0) q) ?_
  refine Wk.st (g' := (mkF m 2 #[.val (.int (0 : Int32)), .val .null, .unset, .unset, .unset, .unset] [])) (fun X t q => XS.astoreN X.here C.hx rfl (hb C.hby d1_1) rfl rfl (l' := #[.val (.int (0 : Int32)), .val .null, .unset, .unset, .unset, .unset]) rfl q) ?_
  refine Wk.getS C (hw _ (List.mem_of_getElem? (i := 4) rfl)) AR.1 d1_2 ?_
  show Wk _ p l e _ s m _ below meth c n0 _ h0 0 0 (mkF m 5 #[.val (.int (0 : Int32)), .val .null, .unset, .unset, .unset, .unset] [(.ref s_ALL)])
  refine Wk.st (g' := (mkF m 6 #[.val (.int (0 : Int32)), .val .null, .val (.ref s_ALL), .unset, .unset, .unset] [])) (fun X t q => XS.astoreN X.here C.hx rfl (hb C.hby d1_5) rfl rfl (l' := #[.val (.int (0 : Int32)), .val .null, .val (.ref s_ALL), .unset, .unset, .unset]) rfl q) ?_
  refine Wk.st (g' := (mkF m 7 #[.val (.int (0 : Int32)), .val .null, .val (.ref s_ALL), .unset, .unset, .unset] [(.ref s_ALL)])) (fun X t q => XS.aloadN X.here C.hx rfl (hb C.hby d1_6) rfl rfl q) ?_
  refine Wk.len C AR.2.1 d1_7 ?_
  rw [AR.2.2.1]
  show Wk _ p l e _ s m _ below meth c n0 _ h0 0 0 (mkF m 8 #[.val (.int (0 : Int32)), .val .null, .val (.ref s_ALL), .unset, .unset, .unset] [(.int (2 : Int32))])
  refine Wk.st (g' := (mkF m 9 #[.val (.int (0 : Int32)), .val .null, .val (.ref s_ALL), .val (.int (2 : Int32)), .unset, .unset] [])) (fun X t q => XS.istoreN X.here C.hx rfl (hb C.hby d1_8) rfl (l' := #[.val (.int (0 : Int32)), .val .null, .val (.ref s_ALL), .val (.int (2 : Int32)), .unset, .unset]) rfl q) ?_
  refine Wk.st (g' := (mkF m 10 #[.val (.int (0 : Int32)), .val .null, .val (.ref s_ALL), .val (.int (2 : Int32)), .unset, .unset] [(.int (0 : Int32))])) (fun X t q => XS.iconst X.here C.hx rfl (hb C.hby d1_9) q) ?_
  refine Wk.st (g' := (mkF m 12 #[.val (.int (0 : Int32)), .val .null, .val (.ref s_ALL), .val (.int (2 : Int32)), .val (.int (0 : Int32)), .unset] [])) (fun X t q => XS.istore X.here C.hx rfl (hb C.hby d1_10) rfl (l' := #[.val (.int (0 : Int32)), .val .null, .val (.ref s_ALL), .val (.int (2 : Int32)), .val (.int (0 : Int32)), .unset]) rfl q) ?_
  refine Wk.st (g' := (mkF m 14 #[.val (.int (0 : Int32)), .val .null, .val (.ref s_ALL), .val (.int (2 : Int32)), .val (.int (0 : Int32)), .unset] [(.int (0 : Int32))])) (fun X t q => XS.iload X.here C.hx rfl (hb C.hby d1_12) rfl q) ?_
  refine Wk.st (g' := (mkF m 15 #[.val (.int (0 : Int32)), .val .null, .val (.ref s_ALL), .val (.int (2 : Int32)), .val (.int (0 : Int32)), .unset] [(.int (2 : Int32)), (.int (0 : Int32))])) (fun X t q => XS.iloadN X.here C.hx rfl (hb C.hby d1_14) rfl q) ?_
  refine Wk.st (g' := (mkF m 18 #[.val (.int (0 : Int32)), .val .null, .val (.ref s_ALL), .val (.int (2 : Int32)), .val (.int (0 : Int32)), .unset] [])) (fun X t q => XS.icmpNo X.here C.hx rfl (hb C.hby d1_15) rfl (XT.ii_ge_f (by decide)) q) ?_
  refine Wk.st (g' := (mkF m 19 #[.val (.int (0 : Int32)), .val .null, .val (.ref s_ALL), .val (.int (2 : Int32)), .val (.int (0 : Int32)), .unset] [(.ref s_ALL)])) (fun X t q => XS.aloadN X.here C.hx rfl (hb C.hby d1_18) rfl rfl q) ?_
  refine Wk.st (g' := (mkF m 21 #[.val (.int (0 : Int32)), .val .null, .val (.ref s_ALL), .val (.int (2 : Int32)), .val (.int (0 : Int32)), .unset] [(.int (0 : Int32)), (.ref s_ALL)])) (fun X t q => XS.iload X.here C.hx rfl (hb C.hby d1_19) rfl q) ?_
  refine Wk.ldR C AR.2.1 rfl (j := (0 : Int32)) (v := (.ref s_JSON)) AR.2.2.2.1.1 AR.2.2.2.1.2 d1_21 ?_
  show Wk _ p l e _ s m _ below meth c n0 _ h0 0 0 (mkF m 22 #[.val (.int (0 : Int32)), .val .null, .val (.ref s_ALL), .val (.int (2 : Int32)), .val (.int (0 : Int32)), .unset] [(.ref s_JSON)])
  refine Wk.st (g' := (mkF m 24 #[.val (.int (0 : Int32)), .val .null, .val (.ref s_ALL), .val (.int (2 : Int32)), .val (.int (0 : Int32)), .val (.ref s_JSON)] [])) (fun X t q => XS.astore X.here C.hx rfl (hb C.hby d1_22) rfl rfl (l' := #[.val (.int (0 : Int32)), .val .null, .val (.ref s_ALL), .val (.int (2 : Int32)), .val (.int (0 : Int32)), .val (.ref s_JSON)]) rfl q) ?_
  refine Wk.st (g' := (mkF m 26 #[.val (.int (0 : Int32)), .val .null, .val (.ref s_ALL), .val (.int (2 : Int32)), .val (.int (0 : Int32)), .val (.ref s_JSON)] [(.ref s_JSON)])) (fun X t q => XS.aload X.here C.hx rfl (hb C.hby d1_24) rfl rfl q) ?_
  refine Wk.getF C (hw _ (List.mem_of_getElem? (i := 7) rfl)) Via.refl (en_O_JSON_code EN) d1_26 ?_
  show Wk _ p l e _ s m _ below meth c n0 _ h0 0 0 (mkF m 29 #[.val (.int (0 : Int32)), .val .null, .val (.ref s_ALL), .val (.int (2 : Int32)), .val (.int (0 : Int32)), .val (.ref s_JSON)] [(.int (0 : Int32))])
  refine Wk.st (g' := (mkF m 30 #[.val (.int (0 : Int32)), .val .null, .val (.ref s_ALL), .val (.int (2 : Int32)), .val (.int (0 : Int32)), .val (.ref s_JSON)] [(.int (0 : Int32)), (.int (0 : Int32))])) (fun X t q => XS.iloadN X.here C.hx rfl (hb C.hby d1_29) rfl q) ?_
  refine Wk.st (g' := (mkF m 33 #[.val (.int (0 : Int32)), .val .null, .val (.ref s_ALL), .val (.int (2 : Int32)), .val (.int (0 : Int32)), .val (.ref s_JSON)] [])) (fun X t q => XS.icmpNo X.here C.hx rfl (hb C.hby d1_30) rfl (XT.ii_ne_f (by decide)) q) ?_
  refine Wk.st (g' := (mkF m 35 #[.val (.int (0 : Int32)), .val .null, .val (.ref s_ALL), .val (.int (2 : Int32)), .val (.int (0 : Int32)), .val (.ref s_JSON)] [(.ref s_JSON)])) (fun X t q => XS.aload X.here C.hx rfl (hb C.hby d1_33) rfl rfl q) ?_
  refine Wk.st (g' := (mkF m 36 #[.val (.int (0 : Int32)), .val (.ref s_JSON), .val (.ref s_ALL), .val (.int (2 : Int32)), .val (.int (0 : Int32)), .val (.ref s_JSON)] [])) (fun X t q => XS.astoreN X.here C.hx rfl (hb C.hby d1_35) rfl rfl (l' := #[.val (.int (0 : Int32)), .val (.ref s_JSON), .val (.ref s_ALL), .val (.int (2 : Int32)), .val (.int (0 : Int32)), .val (.ref s_JSON)]) rfl q) ?_
  refine Wk.st (g' := (mkF m 39 #[.val (.int (0 : Int32)), .val (.ref s_JSON), .val (.ref s_ALL), .val (.int (2 : Int32)), .val (.int (1 : Int32)), .val (.ref s_JSON)] [])) (fun X t q => XS.iinc X.here C.hx rfl (hb C.hby d1_36) rfl (l' := #[.val (.int (0 : Int32)), .val (.ref s_JSON), .val (.ref s_ALL), .val (.int (2 : Int32)), .val (.int (1 : Int32)), .val (.ref s_JSON)]) rfl q) ?_
  refine Wk.st (g' := (mkF m 12 #[.val (.int (0 : Int32)), .val (.ref s_JSON), .val (.ref s_ALL), .val (.int (2 : Int32)), .val (.int (1 : Int32)), .val (.ref s_JSON)] [])) (fun X t q => XS.goto X.here C.hx rfl (pc0 := 39) (pc' := 12) rfl (hb C.hby d1_39) (by decide) (by decide) q) ?_
  refine Wk.st (g' := (mkF m 14 #[.val (.int (0 : Int32)), .val (.ref s_JSON), .val (.ref s_ALL), .val (.int (2 : Int32)), .val (.int (1 : Int32)), .val (.ref s_JSON)] [(.int (1 : Int32))])) (fun X t q => XS.iload X.here C.hx rfl (hb C.hby d1_12) rfl q) ?_
  refine Wk.st (g' := (mkF m 15 #[.val (.int (0 : Int32)), .val (.ref s_JSON), .val (.ref s_ALL), .val (.int (2 : Int32)), .val (.int (1 : Int32)), .val (.ref s_JSON)] [(.int (2 : Int32)), (.int (1 : Int32))])) (fun X t q => XS.iloadN X.here C.hx rfl (hb C.hby d1_14) rfl q) ?_
  refine Wk.st (g' := (mkF m 18 #[.val (.int (0 : Int32)), .val (.ref s_JSON), .val (.ref s_ALL), .val (.int (2 : Int32)), .val (.int (1 : Int32)), .val (.ref s_JSON)] [])) (fun X t q => XS.icmpNo X.here C.hx rfl (hb C.hby d1_15) rfl (XT.ii_ge_f (by decide)) q) ?_
  refine Wk.st (g' := (mkF m 19 #[.val (.int (0 : Int32)), .val (.ref s_JSON), .val (.ref s_ALL), .val (.int (2 : Int32)), .val (.int (1 : Int32)), .val (.ref s_JSON)] [(.ref s_ALL)])) (fun X t q => XS.aloadN X.here C.hx rfl (hb C.hby d1_18) rfl rfl q) ?_
  refine Wk.st (g' := (mkF m 21 #[.val (.int (0 : Int32)), .val (.ref s_JSON), .val (.ref s_ALL), .val (.int (2 : Int32)), .val (.int (1 : Int32)), .val (.ref s_JSON)] [(.int (1 : Int32)), (.ref s_ALL)])) (fun X t q => XS.iload X.here C.hx rfl (hb C.hby d1_19) rfl q) ?_
  refine Wk.ldR C AR.2.1 rfl (j := (1 : Int32)) (v := (.ref s_BINARY)) AR.2.2.2.2.1 AR.2.2.2.2.2 d1_21 ?_
  show Wk _ p l e _ s m _ below meth c n0 _ h0 0 0 (mkF m 22 #[.val (.int (0 : Int32)), .val (.ref s_JSON), .val (.ref s_ALL), .val (.int (2 : Int32)), .val (.int (1 : Int32)), .val (.ref s_JSON)] [(.ref s_BINARY)])
  refine Wk.st (g' := (mkF m 24 #[.val (.int (0 : Int32)), .val (.ref s_JSON), .val (.ref s_ALL), .val (.int (2 : Int32)), .val (.int (1 : Int32)), .val (.ref s_BINARY)] [])) (fun X t q => XS.astore X.here C.hx rfl (hb C.hby d1_22) rfl rfl (l' := #[.val (.int (0 : Int32)), .val (.ref s_JSON), .val (.ref s_ALL), .val (.int (2 : Int32)), .val (.int (1 : Int32)), .val (.ref s_BINARY)]) rfl q) ?_
  refine Wk.st (g' := (mkF m 26 #[.val (.int (0 : Int32)), .val (.ref s_JSON), .val (.ref s_ALL), .val (.int (2 : Int32)), .val (.int (1 : Int32)), .val (.ref s_BINARY)] [(.ref s_BINARY)])) (fun X t q => XS.aload X.here C.hx rfl (hb C.hby d1_24) rfl rfl q) ?_
  refine Wk.getF C (hw _ (List.mem_of_getElem? (i := 7) rfl)) Via.refl (en_O_BINARY_code EN) d1_26 ?_
  show Wk _ p l e _ s m _ below meth c n0 _ h0 0 0 (mkF m 29 #[.val (.int (0 : Int32)), .val (.ref s_JSON), .val (.ref s_ALL), .val (.int (2 : Int32)), .val (.int (1 : Int32)), .val (.ref s_BINARY)] [(.int (1 : Int32))])
  refine Wk.st (g' := (mkF m 30 #[.val (.int (0 : Int32)), .val (.ref s_JSON), .val (.ref s_ALL), .val (.int (2 : Int32)), .val (.int (1 : Int32)), .val (.ref s_BINARY)] [(.int (0 : Int32)), (.int (1 : Int32))])) (fun X t q => XS.iloadN X.here C.hx rfl (hb C.hby d1_29) rfl q) ?_
  refine Wk.st (g' := (mkF m 36 #[.val (.int (0 : Int32)), .val (.ref s_JSON), .val (.ref s_ALL), .val (.int (2 : Int32)), .val (.int (1 : Int32)), .val (.ref s_BINARY)] [])) (fun X t q => XS.icmpYes X.here C.hx rfl (pc0 := 30) (pc' := 36) rfl (hb C.hby d1_30) rfl (XT.ii_ne_t (by decide)) (by decide) (by decide) q) ?_
  refine Wk.st (g' := (mkF m 39 #[.val (.int (0 : Int32)), .val (.ref s_JSON), .val (.ref s_ALL), .val (.int (2 : Int32)), .val (.int (2 : Int32)), .val (.ref s_BINARY)] [])) (fun X t q => XS.iinc X.here C.hx rfl (hb C.hby d1_36) rfl (l' := #[.val (.int (0 : Int32)), .val (.ref s_JSON), .val (.ref s_ALL), .val (.int (2 : Int32)), .val (.int (2 : Int32)), .val (.ref s_BINARY)]) rfl q) ?_
  refine Wk.st (g' := (mkF m 12 #[.val (.int (0 : Int32)), .val (.ref s_JSON), .val (.ref s_ALL), .val (.int (2 : Int32)), .val (.int (2 : Int32)), .val (.ref s_BINARY)] [])) (fun X t q => XS.goto X.here C.hx rfl (pc0 := 39) (pc' := 12) rfl (hb C.hby d1_39) (by decide) (by decide) q) ?_
  refine Wk.st (g' := (mkF m 14 #[.val (.int (0 : Int32)), .val (.ref s_JSON), .val (.ref s_ALL), .val (.int (2 : Int32)), .val (.int (2 : Int32)), .val (.ref s_BINARY)] [(.int (2 : Int32))])) (fun X t q => XS.iload X.here C.hx rfl (hb C.hby d1_12) rfl q) ?_
  refine Wk.st (g' := (mkF m 15 #[.val (.int (0 : Int32)), .val (.ref s_JSON), .val (.ref s_ALL), .val (.int (2 : Int32)), .val (.int (2 : Int32)), .val (.ref s_BINARY)] [(.int (2 : Int32)), (.int (2 : Int32))])) (fun X t q => XS.iloadN X.here C.hx rfl (hb C.hby d1_14) rfl q) ?_
  refine Wk.st (g' := (mkF m 42 #[.val (.int (0 : Int32)), .val (.ref s_JSON), .val (.ref s_ALL), .val (.int (2 : Int32)), .val (.int (2 : Int32)), .val (.ref s_BINARY)] [])) (fun X t q => XS.icmpYes X.here C.hx rfl (pc0 := 15) (pc' := 42) rfl (hb C.hby d1_15) rfl (XT.ii_ge_t (by decide)) (by decide) (by decide) q) ?_
  refine Wk.st (g' := (mkF m 43 #[.val (.int (0 : Int32)), .val (.ref s_JSON), .val (.ref s_ALL), .val (.int (2 : Int32)), .val (.int (2 : Int32)), .val (.ref s_BINARY)] [(.ref s_JSON)])) (fun X t q => XS.aloadN X.here C.hx rfl (hb C.hby d1_42) rfl rfl q) ?_
  exact Wk.retV C (t := (.object "com/example/ample_queue/amplequeue/protocol/HeaderEncoding")) rfl rfl (Or.inr (Or.inr (Or.inr (Or.inr ⟨rfl, rfl, rfl⟩)))) d1_43 (by decide) (by decide) ⟨rfl, rfl⟩
theorem d2_0 : decode method_2_code 0 = .ok (.iload_n 0, 1) := by decide +kernel
theorem d2_1 : decode method_2_code 1 = .ok (.ifCond .ne 7, 3) := by decide +kernel
theorem d2_4 : decode method_2_code 4 = .ok (.getstatic 7, 3) := by decide +kernel
theorem d2_7 : decode method_2_code 7 = .ok (.areturn, 1) := by decide +kernel
theorem d2_8 : decode method_2_code 8 = .ok (.iload_n 0, 1) := by decide +kernel
theorem d2_9 : decode method_2_code 9 = .ok (.iconst 1, 1) := by decide +kernel
theorem d2_10 : decode method_2_code 10 = .ok (.if_icmp .ne 7, 3) := by decide +kernel
theorem d2_13 : decode method_2_code 13 = .ok (.getstatic 13, 3) := by decide +kernel
theorem d2_16 : decode method_2_code 16 = .ok (.areturn, 1) := by decide +kernel
theorem d2_17 : decode method_2_code 17 = .ok (.aconst_null, 1) := by decide +kernel
theorem d2_18 : decode method_2_code 18 = .ok (.areturn, 1) := by decide +kernel
set_option maxRecDepth 65536 in
set_option maxHeartbeats 40000000 in
theorem own_2_1 (l : Launch) (Z : State) (a0 : Array Value) (hw : ∀ d ∈ tables_1, d.before a0 Z = true) (n0 : Nat) (h0 : Heap) (s_JSON s_BINARY : Addr) (EN : Enm Z h0 s_JSON s_BINARY) (s_ALL : Addr) (cl : Cell) (AR : All Z h0 s_ALL cl s_JSON s_BINARY) :
    Met false l Z n0 (⟨"com/example/ample_queue/amplequeue/protocol/HeaderEncodingOfPinLaw", "expected", "(I)Lcom/example/ample_queue/amplequeue/protocol/HeaderEncoding;"⟩ : MethodName) method_2_code 1 (some (.object "com/example/ample_queue/amplequeue/protocol/HeaderEncoding")) ({ frames := 0, cells := 0, slots := 0, locals := 0 } : Room) #[(.int (0 : Int32))] h0 (fun v h => v = some (.ref s_JSON) ∧ h0 = h) := by
  refine Met.of pn_1 #[.val (.int (0 : Int32))] (fun m => by first | (simp [entryFrame, mkF, argsToLocals, Value.category]; done) | rfl) ?_
  intro p e s m below meth c C
  refine Wk.st (g' := (mkF m 1 #[.val (.int (0 : Int32))] [(.int (0 : Int32))])) (fun X t q => XS.iloadN X.here C.hx rfl (hb C.hby d2_0) rfl q) ?_
  refine Wk.st (g' := (mkF m 4 #[.val (.int (0 : Int32))] [])) (fun X t q => XS.ifNo X.here C.hx rfl (hb C.hby d2_1) rfl (XT.i0_ne_f (by decide)) q) ?_
  refine Wk.getS C (hw _ (List.mem_of_getElem? (i := 14) rfl)) (en_S_JSON EN) d2_4 ?_
  show Wk _ p l e _ s m _ below meth c n0 _ h0 0 0 (mkF m 7 #[.val (.int (0 : Int32))] [(.ref s_JSON)])
  exact Wk.retV C (t := (.object "com/example/ample_queue/amplequeue/protocol/HeaderEncoding")) rfl rfl (Or.inr (Or.inr (Or.inr (Or.inr ⟨rfl, rfl, rfl⟩)))) d2_7 (by decide) (by decide) ⟨rfl, rfl⟩
theorem d3_0 : decode prog_42_method_4_code 0 = .ok (.aload_n 0, 1) := by decide +kernel
theorem d3_1 : decode prog_42_method_4_code 1 = .ok (.getfield 29, 3) := by decide +kernel
theorem d3_4 : decode prog_42_method_4_code 4 = .ok (.ireturn, 1) := by decide +kernel
set_option maxRecDepth 65536 in
set_option maxHeartbeats 40000000 in
theorem own_3_2 (l : Launch) (Z : State) (a0 : Array Value) (hw : ∀ d ∈ tables_1, d.before a0 Z = true) (n0 : Nat) (h0 : Heap) (s_JSON s_BINARY : Addr) (EN : Enm Z h0 s_JSON s_BINARY) (s_ALL : Addr) (cl : Cell) (AR : All Z h0 s_ALL cl s_JSON s_BINARY) :
    Met false l Z n0 (⟨"com/example/ample_queue/amplequeue/protocol/HeaderEncoding", "code", "()I"⟩ : MethodName) prog_42_method_4_code 1 (some .int) ({ frames := 0, cells := 0, slots := 0, locals := 0 } : Room) #[(.ref s_JSON)] h0 (fun v h => v = some (.int (0 : Int32)) ∧ h0 = h) := by
  refine Met.of pn_0 #[.val (.ref s_JSON)] (fun m => by first | (simp [entryFrame, mkF, argsToLocals, Value.category]; done) | rfl) ?_
  intro p e s m below meth c C
  refine Wk.st (g' := (mkF m 1 #[.val (.ref s_JSON)] [(.ref s_JSON)])) (fun X t q => XS.aloadN X.here C.hx rfl (hb C.hby d3_0) rfl rfl q) ?_
  refine Wk.getF C (hw _ (List.mem_of_getElem? (i := 7) rfl)) Via.refl (en_O_JSON_code EN) d3_1 ?_
  show Wk _ p l e _ s m _ below meth c n0 _ h0 0 0 (mkF m 4 #[.val (.ref s_JSON)] [(.int (0 : Int32))])
  exact Wk.retV C (t := .int) rfl rfl (Or.inl ⟨rfl, by simp, _, rfl⟩) d3_4 (by decide) (by decide) ⟨rfl, rfl⟩
set_option maxRecDepth 65536 in
set_option maxHeartbeats 40000000 in
theorem own_3_3 (l : Launch) (Z : State) (a0 : Array Value) (hw : ∀ d ∈ tables_1, d.before a0 Z = true) (n0 : Nat) (h0 : Heap) (s_JSON s_BINARY : Addr) (EN : Enm Z h0 s_JSON s_BINARY) (s_ALL : Addr) (cl : Cell) (AR : All Z h0 s_ALL cl s_JSON s_BINARY) :
    Met false l Z n0 (⟨"com/example/ample_queue/amplequeue/protocol/HeaderEncoding", "code", "()I"⟩ : MethodName) prog_42_method_4_code 1 (some .int) ({ frames := 0, cells := 0, slots := 0, locals := 0 } : Room) #[(.ref s_BINARY)] h0 (fun v h => v = some (.int (1 : Int32)) ∧ h0 = h) := by
  refine Met.of pn_0 #[.val (.ref s_BINARY)] (fun m => by first | (simp [entryFrame, mkF, argsToLocals, Value.category]; done) | rfl) ?_
  intro p e s m below meth c C
  refine Wk.st (g' := (mkF m 1 #[.val (.ref s_BINARY)] [(.ref s_BINARY)])) (fun X t q => XS.aloadN X.here C.hx rfl (hb C.hby d3_0) rfl rfl q) ?_
  refine Wk.getF C (hw _ (List.mem_of_getElem? (i := 7) rfl)) Via.refl (en_O_BINARY_code EN) d3_1 ?_
  show Wk _ p l e _ s m _ below meth c n0 _ h0 0 0 (mkF m 4 #[.val (.ref s_BINARY)] [(.int (1 : Int32))])
  exact Wk.retV C (t := .int) rfl rfl (Or.inl ⟨rfl, by simp, _, rfl⟩) d3_4 (by decide) (by decide) ⟨rfl, rfl⟩
set_option maxRecDepth 65536 in
set_option maxHeartbeats 40000000 in
theorem own_1_4 (l : Launch) (Z : State) (a0 : Array Value) (hw : ∀ d ∈ tables_1, d.before a0 Z = true) (n0 : Nat) (h0 : Heap) (s_JSON s_BINARY : Addr) (EN : Enm Z h0 s_JSON s_BINARY) (s_ALL : Addr) (cl : Cell) (AR : All Z h0 s_ALL cl s_JSON s_BINARY) :
    Met false l Z n0 (⟨"com/example/ample_queue/amplequeue/protocol/HeaderEncoding", "of", "(I)Lcom/example/ample_queue/amplequeue/protocol/HeaderEncoding;"⟩ : MethodName) prog_42_method_5_code 6 (some (.object "com/example/ample_queue/amplequeue/protocol/HeaderEncoding")) ({ frames := 0, cells := 0, slots := 0, locals := 0 } : Room) #[(.int (1 : Int32))] h0 (fun v h => v = some (.ref s_BINARY) ∧ h0 = h) := by
  refine Met.of pn_0 #[.val (.int (1 : Int32)), .unset, .unset, .unset, .unset, .unset] (fun m => by first | (simp [entryFrame, mkF, argsToLocals, Value.category]; done) | rfl) ?_
  intro p e s m below meth c C
  refine Wk.st (g' := (mkF m 1 #[.val (.int (1 : Int32)), .unset, .unset, .unset, .unset, .unset] [.null])) (fun X t q => XS.aconstNull X.here C.hx rfl (hb C.hby d1_0) q) ?_
  refine Wk.st (g' := (mkF m 2 #[.val (.int (1 : Int32)), .val .null, .unset, .unset, .unset, .unset] [])) (fun X t q => XS.astoreN X.here C.hx rfl (hb C.hby d1_1) rfl rfl (l' := #[.val (.int (1 : Int32)), .val .null, .unset, .unset, .unset, .unset]) rfl q) ?_
  refine Wk.getS C (hw _ (List.mem_of_getElem? (i := 4) rfl)) AR.1 d1_2 ?_
  show Wk _ p l e _ s m _ below meth c n0 _ h0 0 0 (mkF m 5 #[.val (.int (1 : Int32)), .val .null, .unset, .unset, .unset, .unset] [(.ref s_ALL)])
  refine Wk.st (g' := (mkF m 6 #[.val (.int (1 : Int32)), .val .null, .val (.ref s_ALL), .unset, .unset, .unset] [])) (fun X t q => XS.astoreN X.here C.hx rfl (hb C.hby d1_5) rfl rfl (l' := #[.val (.int (1 : Int32)), .val .null, .val (.ref s_ALL), .unset, .unset, .unset]) rfl q) ?_
  refine Wk.st (g' := (mkF m 7 #[.val (.int (1 : Int32)), .val .null, .val (.ref s_ALL), .unset, .unset, .unset] [(.ref s_ALL)])) (fun X t q => XS.aloadN X.here C.hx rfl (hb C.hby d1_6) rfl rfl q) ?_
  refine Wk.len C AR.2.1 d1_7 ?_
  rw [AR.2.2.1]
  show Wk _ p l e _ s m _ below meth c n0 _ h0 0 0 (mkF m 8 #[.val (.int (1 : Int32)), .val .null, .val (.ref s_ALL), .unset, .unset, .unset] [(.int (2 : Int32))])
  refine Wk.st (g' := (mkF m 9 #[.val (.int (1 : Int32)), .val .null, .val (.ref s_ALL), .val (.int (2 : Int32)), .unset, .unset] [])) (fun X t q => XS.istoreN X.here C.hx rfl (hb C.hby d1_8) rfl (l' := #[.val (.int (1 : Int32)), .val .null, .val (.ref s_ALL), .val (.int (2 : Int32)), .unset, .unset]) rfl q) ?_
  refine Wk.st (g' := (mkF m 10 #[.val (.int (1 : Int32)), .val .null, .val (.ref s_ALL), .val (.int (2 : Int32)), .unset, .unset] [(.int (0 : Int32))])) (fun X t q => XS.iconst X.here C.hx rfl (hb C.hby d1_9) q) ?_
  refine Wk.st (g' := (mkF m 12 #[.val (.int (1 : Int32)), .val .null, .val (.ref s_ALL), .val (.int (2 : Int32)), .val (.int (0 : Int32)), .unset] [])) (fun X t q => XS.istore X.here C.hx rfl (hb C.hby d1_10) rfl (l' := #[.val (.int (1 : Int32)), .val .null, .val (.ref s_ALL), .val (.int (2 : Int32)), .val (.int (0 : Int32)), .unset]) rfl q) ?_
  refine Wk.st (g' := (mkF m 14 #[.val (.int (1 : Int32)), .val .null, .val (.ref s_ALL), .val (.int (2 : Int32)), .val (.int (0 : Int32)), .unset] [(.int (0 : Int32))])) (fun X t q => XS.iload X.here C.hx rfl (hb C.hby d1_12) rfl q) ?_
  refine Wk.st (g' := (mkF m 15 #[.val (.int (1 : Int32)), .val .null, .val (.ref s_ALL), .val (.int (2 : Int32)), .val (.int (0 : Int32)), .unset] [(.int (2 : Int32)), (.int (0 : Int32))])) (fun X t q => XS.iloadN X.here C.hx rfl (hb C.hby d1_14) rfl q) ?_
  refine Wk.st (g' := (mkF m 18 #[.val (.int (1 : Int32)), .val .null, .val (.ref s_ALL), .val (.int (2 : Int32)), .val (.int (0 : Int32)), .unset] [])) (fun X t q => XS.icmpNo X.here C.hx rfl (hb C.hby d1_15) rfl (XT.ii_ge_f (by decide)) q) ?_
  refine Wk.st (g' := (mkF m 19 #[.val (.int (1 : Int32)), .val .null, .val (.ref s_ALL), .val (.int (2 : Int32)), .val (.int (0 : Int32)), .unset] [(.ref s_ALL)])) (fun X t q => XS.aloadN X.here C.hx rfl (hb C.hby d1_18) rfl rfl q) ?_
  refine Wk.st (g' := (mkF m 21 #[.val (.int (1 : Int32)), .val .null, .val (.ref s_ALL), .val (.int (2 : Int32)), .val (.int (0 : Int32)), .unset] [(.int (0 : Int32)), (.ref s_ALL)])) (fun X t q => XS.iload X.here C.hx rfl (hb C.hby d1_19) rfl q) ?_
  refine Wk.ldR C AR.2.1 rfl (j := (0 : Int32)) (v := (.ref s_JSON)) AR.2.2.2.1.1 AR.2.2.2.1.2 d1_21 ?_
  show Wk _ p l e _ s m _ below meth c n0 _ h0 0 0 (mkF m 22 #[.val (.int (1 : Int32)), .val .null, .val (.ref s_ALL), .val (.int (2 : Int32)), .val (.int (0 : Int32)), .unset] [(.ref s_JSON)])
  refine Wk.st (g' := (mkF m 24 #[.val (.int (1 : Int32)), .val .null, .val (.ref s_ALL), .val (.int (2 : Int32)), .val (.int (0 : Int32)), .val (.ref s_JSON)] [])) (fun X t q => XS.astore X.here C.hx rfl (hb C.hby d1_22) rfl rfl (l' := #[.val (.int (1 : Int32)), .val .null, .val (.ref s_ALL), .val (.int (2 : Int32)), .val (.int (0 : Int32)), .val (.ref s_JSON)]) rfl q) ?_
  refine Wk.st (g' := (mkF m 26 #[.val (.int (1 : Int32)), .val .null, .val (.ref s_ALL), .val (.int (2 : Int32)), .val (.int (0 : Int32)), .val (.ref s_JSON)] [(.ref s_JSON)])) (fun X t q => XS.aload X.here C.hx rfl (hb C.hby d1_24) rfl rfl q) ?_
  refine Wk.getF C (hw _ (List.mem_of_getElem? (i := 7) rfl)) Via.refl (en_O_JSON_code EN) d1_26 ?_
  show Wk _ p l e _ s m _ below meth c n0 _ h0 0 0 (mkF m 29 #[.val (.int (1 : Int32)), .val .null, .val (.ref s_ALL), .val (.int (2 : Int32)), .val (.int (0 : Int32)), .val (.ref s_JSON)] [(.int (0 : Int32))])
  refine Wk.st (g' := (mkF m 30 #[.val (.int (1 : Int32)), .val .null, .val (.ref s_ALL), .val (.int (2 : Int32)), .val (.int (0 : Int32)), .val (.ref s_JSON)] [(.int (1 : Int32)), (.int (0 : Int32))])) (fun X t q => XS.iloadN X.here C.hx rfl (hb C.hby d1_29) rfl q) ?_
  refine Wk.st (g' := (mkF m 36 #[.val (.int (1 : Int32)), .val .null, .val (.ref s_ALL), .val (.int (2 : Int32)), .val (.int (0 : Int32)), .val (.ref s_JSON)] [])) (fun X t q => XS.icmpYes X.here C.hx rfl (pc0 := 30) (pc' := 36) rfl (hb C.hby d1_30) rfl (XT.ii_ne_t (by decide)) (by decide) (by decide) q) ?_
  refine Wk.st (g' := (mkF m 39 #[.val (.int (1 : Int32)), .val .null, .val (.ref s_ALL), .val (.int (2 : Int32)), .val (.int (1 : Int32)), .val (.ref s_JSON)] [])) (fun X t q => XS.iinc X.here C.hx rfl (hb C.hby d1_36) rfl (l' := #[.val (.int (1 : Int32)), .val .null, .val (.ref s_ALL), .val (.int (2 : Int32)), .val (.int (1 : Int32)), .val (.ref s_JSON)]) rfl q) ?_
  refine Wk.st (g' := (mkF m 12 #[.val (.int (1 : Int32)), .val .null, .val (.ref s_ALL), .val (.int (2 : Int32)), .val (.int (1 : Int32)), .val (.ref s_JSON)] [])) (fun X t q => XS.goto X.here C.hx rfl (pc0 := 39) (pc' := 12) rfl (hb C.hby d1_39) (by decide) (by decide) q) ?_
  refine Wk.st (g' := (mkF m 14 #[.val (.int (1 : Int32)), .val .null, .val (.ref s_ALL), .val (.int (2 : Int32)), .val (.int (1 : Int32)), .val (.ref s_JSON)] [(.int (1 : Int32))])) (fun X t q => XS.iload X.here C.hx rfl (hb C.hby d1_12) rfl q) ?_
  refine Wk.st (g' := (mkF m 15 #[.val (.int (1 : Int32)), .val .null, .val (.ref s_ALL), .val (.int (2 : Int32)), .val (.int (1 : Int32)), .val (.ref s_JSON)] [(.int (2 : Int32)), (.int (1 : Int32))])) (fun X t q => XS.iloadN X.here C.hx rfl (hb C.hby d1_14) rfl q) ?_
  refine Wk.st (g' := (mkF m 18 #[.val (.int (1 : Int32)), .val .null, .val (.ref s_ALL), .val (.int (2 : Int32)), .val (.int (1 : Int32)), .val (.ref s_JSON)] [])) (fun X t q => XS.icmpNo X.here C.hx rfl (hb C.hby d1_15) rfl (XT.ii_ge_f (by decide)) q) ?_
  refine Wk.st (g' := (mkF m 19 #[.val (.int (1 : Int32)), .val .null, .val (.ref s_ALL), .val (.int (2 : Int32)), .val (.int (1 : Int32)), .val (.ref s_JSON)] [(.ref s_ALL)])) (fun X t q => XS.aloadN X.here C.hx rfl (hb C.hby d1_18) rfl rfl q) ?_
  refine Wk.st (g' := (mkF m 21 #[.val (.int (1 : Int32)), .val .null, .val (.ref s_ALL), .val (.int (2 : Int32)), .val (.int (1 : Int32)), .val (.ref s_JSON)] [(.int (1 : Int32)), (.ref s_ALL)])) (fun X t q => XS.iload X.here C.hx rfl (hb C.hby d1_19) rfl q) ?_
  refine Wk.ldR C AR.2.1 rfl (j := (1 : Int32)) (v := (.ref s_BINARY)) AR.2.2.2.2.1 AR.2.2.2.2.2 d1_21 ?_
  show Wk _ p l e _ s m _ below meth c n0 _ h0 0 0 (mkF m 22 #[.val (.int (1 : Int32)), .val .null, .val (.ref s_ALL), .val (.int (2 : Int32)), .val (.int (1 : Int32)), .val (.ref s_JSON)] [(.ref s_BINARY)])
  refine Wk.st (g' := (mkF m 24 #[.val (.int (1 : Int32)), .val .null, .val (.ref s_ALL), .val (.int (2 : Int32)), .val (.int (1 : Int32)), .val (.ref s_BINARY)] [])) (fun X t q => XS.astore X.here C.hx rfl (hb C.hby d1_22) rfl rfl (l' := #[.val (.int (1 : Int32)), .val .null, .val (.ref s_ALL), .val (.int (2 : Int32)), .val (.int (1 : Int32)), .val (.ref s_BINARY)]) rfl q) ?_
  refine Wk.st (g' := (mkF m 26 #[.val (.int (1 : Int32)), .val .null, .val (.ref s_ALL), .val (.int (2 : Int32)), .val (.int (1 : Int32)), .val (.ref s_BINARY)] [(.ref s_BINARY)])) (fun X t q => XS.aload X.here C.hx rfl (hb C.hby d1_24) rfl rfl q) ?_
  refine Wk.getF C (hw _ (List.mem_of_getElem? (i := 7) rfl)) Via.refl (en_O_BINARY_code EN) d1_26 ?_
  show Wk _ p l e _ s m _ below meth c n0 _ h0 0 0 (mkF m 29 #[.val (.int (1 : Int32)), .val .null, .val (.ref s_ALL), .val (.int (2 : Int32)), .val (.int (1 : Int32)), .val (.ref s_BINARY)] [(.int (1 : Int32))])
  refine Wk.st (g' := (mkF m 30 #[.val (.int (1 : Int32)), .val .null, .val (.ref s_ALL), .val (.int (2 : Int32)), .val (.int (1 : Int32)), .val (.ref s_BINARY)] [(.int (1 : Int32)), (.int (1 : Int32))])) (fun X t q => XS.iloadN X.here C.hx rfl (hb C.hby d1_29) rfl q) ?_
  refine Wk.st (g' := (mkF m 33 #[.val (.int (1 : Int32)), .val .null, .val (.ref s_ALL), .val (.int (2 : Int32)), .val (.int (1 : Int32)), .val (.ref s_BINARY)] [])) (fun X t q => XS.icmpNo X.here C.hx rfl (hb C.hby d1_30) rfl (XT.ii_ne_f (by decide)) q) ?_
  refine Wk.st (g' := (mkF m 35 #[.val (.int (1 : Int32)), .val .null, .val (.ref s_ALL), .val (.int (2 : Int32)), .val (.int (1 : Int32)), .val (.ref s_BINARY)] [(.ref s_BINARY)])) (fun X t q => XS.aload X.here C.hx rfl (hb C.hby d1_33) rfl rfl q) ?_
  refine Wk.st (g' := (mkF m 36 #[.val (.int (1 : Int32)), .val (.ref s_BINARY), .val (.ref s_ALL), .val (.int (2 : Int32)), .val (.int (1 : Int32)), .val (.ref s_BINARY)] [])) (fun X t q => XS.astoreN X.here C.hx rfl (hb C.hby d1_35) rfl rfl (l' := #[.val (.int (1 : Int32)), .val (.ref s_BINARY), .val (.ref s_ALL), .val (.int (2 : Int32)), .val (.int (1 : Int32)), .val (.ref s_BINARY)]) rfl q) ?_
  refine Wk.st (g' := (mkF m 39 #[.val (.int (1 : Int32)), .val (.ref s_BINARY), .val (.ref s_ALL), .val (.int (2 : Int32)), .val (.int (2 : Int32)), .val (.ref s_BINARY)] [])) (fun X t q => XS.iinc X.here C.hx rfl (hb C.hby d1_36) rfl (l' := #[.val (.int (1 : Int32)), .val (.ref s_BINARY), .val (.ref s_ALL), .val (.int (2 : Int32)), .val (.int (2 : Int32)), .val (.ref s_BINARY)]) rfl q) ?_
  refine Wk.st (g' := (mkF m 12 #[.val (.int (1 : Int32)), .val (.ref s_BINARY), .val (.ref s_ALL), .val (.int (2 : Int32)), .val (.int (2 : Int32)), .val (.ref s_BINARY)] [])) (fun X t q => XS.goto X.here C.hx rfl (pc0 := 39) (pc' := 12) rfl (hb C.hby d1_39) (by decide) (by decide) q) ?_
  refine Wk.st (g' := (mkF m 14 #[.val (.int (1 : Int32)), .val (.ref s_BINARY), .val (.ref s_ALL), .val (.int (2 : Int32)), .val (.int (2 : Int32)), .val (.ref s_BINARY)] [(.int (2 : Int32))])) (fun X t q => XS.iload X.here C.hx rfl (hb C.hby d1_12) rfl q) ?_
  refine Wk.st (g' := (mkF m 15 #[.val (.int (1 : Int32)), .val (.ref s_BINARY), .val (.ref s_ALL), .val (.int (2 : Int32)), .val (.int (2 : Int32)), .val (.ref s_BINARY)] [(.int (2 : Int32)), (.int (2 : Int32))])) (fun X t q => XS.iloadN X.here C.hx rfl (hb C.hby d1_14) rfl q) ?_
  refine Wk.st (g' := (mkF m 42 #[.val (.int (1 : Int32)), .val (.ref s_BINARY), .val (.ref s_ALL), .val (.int (2 : Int32)), .val (.int (2 : Int32)), .val (.ref s_BINARY)] [])) (fun X t q => XS.icmpYes X.here C.hx rfl (pc0 := 15) (pc' := 42) rfl (hb C.hby d1_15) rfl (XT.ii_ge_t (by decide)) (by decide) (by decide) q) ?_
  refine Wk.st (g' := (mkF m 43 #[.val (.int (1 : Int32)), .val (.ref s_BINARY), .val (.ref s_ALL), .val (.int (2 : Int32)), .val (.int (2 : Int32)), .val (.ref s_BINARY)] [(.ref s_BINARY)])) (fun X t q => XS.aloadN X.here C.hx rfl (hb C.hby d1_42) rfl rfl q) ?_
  exact Wk.retV C (t := (.object "com/example/ample_queue/amplequeue/protocol/HeaderEncoding")) rfl rfl (Or.inr (Or.inr (Or.inr (Or.inr ⟨rfl, rfl, rfl⟩)))) d1_43 (by decide) (by decide) ⟨rfl, rfl⟩
set_option maxRecDepth 65536 in
set_option maxHeartbeats 40000000 in
theorem own_2_5 (l : Launch) (Z : State) (a0 : Array Value) (hw : ∀ d ∈ tables_1, d.before a0 Z = true) (n0 : Nat) (h0 : Heap) (s_JSON s_BINARY : Addr) (EN : Enm Z h0 s_JSON s_BINARY) (s_ALL : Addr) (cl : Cell) (AR : All Z h0 s_ALL cl s_JSON s_BINARY) :
    Met false l Z n0 (⟨"com/example/ample_queue/amplequeue/protocol/HeaderEncodingOfPinLaw", "expected", "(I)Lcom/example/ample_queue/amplequeue/protocol/HeaderEncoding;"⟩ : MethodName) method_2_code 1 (some (.object "com/example/ample_queue/amplequeue/protocol/HeaderEncoding")) ({ frames := 0, cells := 0, slots := 0, locals := 0 } : Room) #[(.int (1 : Int32))] h0 (fun v h => v = some (.ref s_BINARY) ∧ h0 = h) := by
  refine Met.of pn_1 #[.val (.int (1 : Int32))] (fun m => by first | (simp [entryFrame, mkF, argsToLocals, Value.category]; done) | rfl) ?_
  intro p e s m below meth c C
  refine Wk.st (g' := (mkF m 1 #[.val (.int (1 : Int32))] [(.int (1 : Int32))])) (fun X t q => XS.iloadN X.here C.hx rfl (hb C.hby d2_0) rfl q) ?_
  refine Wk.st (g' := (mkF m 8 #[.val (.int (1 : Int32))] [])) (fun X t q => XS.ifYes X.here C.hx rfl (pc0 := 1) (pc' := 8) rfl (hb C.hby d2_1) rfl (XT.i0_ne_t (by decide)) (by decide) (by decide) q) ?_
  refine Wk.st (g' := (mkF m 9 #[.val (.int (1 : Int32))] [(.int (1 : Int32))])) (fun X t q => XS.iloadN X.here C.hx rfl (hb C.hby d2_8) rfl q) ?_
  refine Wk.st (g' := (mkF m 10 #[.val (.int (1 : Int32))] [(.int (1 : Int32)), (.int (1 : Int32))])) (fun X t q => XS.iconst X.here C.hx rfl (hb C.hby d2_9) q) ?_
  refine Wk.st (g' := (mkF m 13 #[.val (.int (1 : Int32))] [])) (fun X t q => XS.icmpNo X.here C.hx rfl (hb C.hby d2_10) rfl (XT.ii_ne_f (by decide)) q) ?_
  refine Wk.getS C (hw _ (List.mem_of_getElem? (i := 20) rfl)) (en_S_BINARY EN) d2_13 ?_
  show Wk _ p l e _ s m _ below meth c n0 _ h0 0 0 (mkF m 16 #[.val (.int (1 : Int32))] [(.ref s_BINARY)])
  exact Wk.retV C (t := (.object "com/example/ample_queue/amplequeue/protocol/HeaderEncoding")) rfl rfl (Or.inr (Or.inr (Or.inr (Or.inr ⟨rfl, rfl, rfl⟩)))) d2_16 (by decide) (by decide) ⟨rfl, rfl⟩
set_option maxRecDepth 65536 in
set_option maxHeartbeats 40000000 in
theorem own_1_6 (l : Launch) (Z : State) (a0 : Array Value) (hw : ∀ d ∈ tables_1, d.before a0 Z = true) (n0 : Nat) (h0 : Heap) (s_JSON s_BINARY : Addr) (EN : Enm Z h0 s_JSON s_BINARY) (s_ALL : Addr) (cl : Cell) (AR : All Z h0 s_ALL cl s_JSON s_BINARY) (k : Int32) (k0 : ¬ k = 0) (k1 : ¬ k = 1) :
    Met false l Z n0 (⟨"com/example/ample_queue/amplequeue/protocol/HeaderEncoding", "of", "(I)Lcom/example/ample_queue/amplequeue/protocol/HeaderEncoding;"⟩ : MethodName) prog_42_method_5_code 6 (some (.object "com/example/ample_queue/amplequeue/protocol/HeaderEncoding")) ({ frames := 0, cells := 0, slots := 0, locals := 0 } : Room) #[(.int k)] h0 (fun v h => v = some .null ∧ h0 = h) := by
  refine Met.of pn_0 #[.val (.int k), .unset, .unset, .unset, .unset, .unset] (fun m => by first | (simp [entryFrame, mkF, argsToLocals, Value.category]; done) | rfl) ?_
  intro p e s m below meth c C
  refine Wk.st (g' := (mkF m 1 #[.val (.int k), .unset, .unset, .unset, .unset, .unset] [.null])) (fun X t q => XS.aconstNull X.here C.hx rfl (hb C.hby d1_0) q) ?_
  refine Wk.st (g' := (mkF m 2 #[.val (.int k), .val .null, .unset, .unset, .unset, .unset] [])) (fun X t q => XS.astoreN X.here C.hx rfl (hb C.hby d1_1) rfl rfl (l' := #[.val (.int k), .val .null, .unset, .unset, .unset, .unset]) rfl q) ?_
  refine Wk.getS C (hw _ (List.mem_of_getElem? (i := 4) rfl)) AR.1 d1_2 ?_
  show Wk _ p l e _ s m _ below meth c n0 _ h0 0 0 (mkF m 5 #[.val (.int k), .val .null, .unset, .unset, .unset, .unset] [(.ref s_ALL)])
  refine Wk.st (g' := (mkF m 6 #[.val (.int k), .val .null, .val (.ref s_ALL), .unset, .unset, .unset] [])) (fun X t q => XS.astoreN X.here C.hx rfl (hb C.hby d1_5) rfl rfl (l' := #[.val (.int k), .val .null, .val (.ref s_ALL), .unset, .unset, .unset]) rfl q) ?_
  refine Wk.st (g' := (mkF m 7 #[.val (.int k), .val .null, .val (.ref s_ALL), .unset, .unset, .unset] [(.ref s_ALL)])) (fun X t q => XS.aloadN X.here C.hx rfl (hb C.hby d1_6) rfl rfl q) ?_
  refine Wk.len C AR.2.1 d1_7 ?_
  rw [AR.2.2.1]
  show Wk _ p l e _ s m _ below meth c n0 _ h0 0 0 (mkF m 8 #[.val (.int k), .val .null, .val (.ref s_ALL), .unset, .unset, .unset] [(.int (2 : Int32))])
  refine Wk.st (g' := (mkF m 9 #[.val (.int k), .val .null, .val (.ref s_ALL), .val (.int (2 : Int32)), .unset, .unset] [])) (fun X t q => XS.istoreN X.here C.hx rfl (hb C.hby d1_8) rfl (l' := #[.val (.int k), .val .null, .val (.ref s_ALL), .val (.int (2 : Int32)), .unset, .unset]) rfl q) ?_
  refine Wk.st (g' := (mkF m 10 #[.val (.int k), .val .null, .val (.ref s_ALL), .val (.int (2 : Int32)), .unset, .unset] [(.int (0 : Int32))])) (fun X t q => XS.iconst X.here C.hx rfl (hb C.hby d1_9) q) ?_
  refine Wk.st (g' := (mkF m 12 #[.val (.int k), .val .null, .val (.ref s_ALL), .val (.int (2 : Int32)), .val (.int (0 : Int32)), .unset] [])) (fun X t q => XS.istore X.here C.hx rfl (hb C.hby d1_10) rfl (l' := #[.val (.int k), .val .null, .val (.ref s_ALL), .val (.int (2 : Int32)), .val (.int (0 : Int32)), .unset]) rfl q) ?_
  refine Wk.st (g' := (mkF m 14 #[.val (.int k), .val .null, .val (.ref s_ALL), .val (.int (2 : Int32)), .val (.int (0 : Int32)), .unset] [(.int (0 : Int32))])) (fun X t q => XS.iload X.here C.hx rfl (hb C.hby d1_12) rfl q) ?_
  refine Wk.st (g' := (mkF m 15 #[.val (.int k), .val .null, .val (.ref s_ALL), .val (.int (2 : Int32)), .val (.int (0 : Int32)), .unset] [(.int (2 : Int32)), (.int (0 : Int32))])) (fun X t q => XS.iloadN X.here C.hx rfl (hb C.hby d1_14) rfl q) ?_
  refine Wk.st (g' := (mkF m 18 #[.val (.int k), .val .null, .val (.ref s_ALL), .val (.int (2 : Int32)), .val (.int (0 : Int32)), .unset] [])) (fun X t q => XS.icmpNo X.here C.hx rfl (hb C.hby d1_15) rfl (XT.ii_ge_f (by decide)) q) ?_
  refine Wk.st (g' := (mkF m 19 #[.val (.int k), .val .null, .val (.ref s_ALL), .val (.int (2 : Int32)), .val (.int (0 : Int32)), .unset] [(.ref s_ALL)])) (fun X t q => XS.aloadN X.here C.hx rfl (hb C.hby d1_18) rfl rfl q) ?_
  refine Wk.st (g' := (mkF m 21 #[.val (.int k), .val .null, .val (.ref s_ALL), .val (.int (2 : Int32)), .val (.int (0 : Int32)), .unset] [(.int (0 : Int32)), (.ref s_ALL)])) (fun X t q => XS.iload X.here C.hx rfl (hb C.hby d1_19) rfl q) ?_
  refine Wk.ldR C AR.2.1 rfl (j := (0 : Int32)) (v := (.ref s_JSON)) AR.2.2.2.1.1 AR.2.2.2.1.2 d1_21 ?_
  show Wk _ p l e _ s m _ below meth c n0 _ h0 0 0 (mkF m 22 #[.val (.int k), .val .null, .val (.ref s_ALL), .val (.int (2 : Int32)), .val (.int (0 : Int32)), .unset] [(.ref s_JSON)])
  refine Wk.st (g' := (mkF m 24 #[.val (.int k), .val .null, .val (.ref s_ALL), .val (.int (2 : Int32)), .val (.int (0 : Int32)), .val (.ref s_JSON)] [])) (fun X t q => XS.astore X.here C.hx rfl (hb C.hby d1_22) rfl rfl (l' := #[.val (.int k), .val .null, .val (.ref s_ALL), .val (.int (2 : Int32)), .val (.int (0 : Int32)), .val (.ref s_JSON)]) rfl q) ?_
  refine Wk.st (g' := (mkF m 26 #[.val (.int k), .val .null, .val (.ref s_ALL), .val (.int (2 : Int32)), .val (.int (0 : Int32)), .val (.ref s_JSON)] [(.ref s_JSON)])) (fun X t q => XS.aload X.here C.hx rfl (hb C.hby d1_24) rfl rfl q) ?_
  refine Wk.getF C (hw _ (List.mem_of_getElem? (i := 7) rfl)) Via.refl (en_O_JSON_code EN) d1_26 ?_
  show Wk _ p l e _ s m _ below meth c n0 _ h0 0 0 (mkF m 29 #[.val (.int k), .val .null, .val (.ref s_ALL), .val (.int (2 : Int32)), .val (.int (0 : Int32)), .val (.ref s_JSON)] [(.int (0 : Int32))])
  refine Wk.st (g' := (mkF m 30 #[.val (.int k), .val .null, .val (.ref s_ALL), .val (.int (2 : Int32)), .val (.int (0 : Int32)), .val (.ref s_JSON)] [(.int k), (.int (0 : Int32))])) (fun X t q => XS.iloadN X.here C.hx rfl (hb C.hby d1_29) rfl q) ?_
  refine Wk.st (g' := (mkF m 36 #[.val (.int k), .val .null, .val (.ref s_ALL), .val (.int (2 : Int32)), .val (.int (0 : Int32)), .val (.ref s_JSON)] [])) (fun X t q => XS.icmpYes X.here C.hx rfl (pc0 := 30) (pc' := 36) rfl (hb C.hby d1_30) rfl (XT.ii_ne_t (Ne.symm k0)) (by decide) (by decide) q) ?_
  refine Wk.st (g' := (mkF m 39 #[.val (.int k), .val .null, .val (.ref s_ALL), .val (.int (2 : Int32)), .val (.int (1 : Int32)), .val (.ref s_JSON)] [])) (fun X t q => XS.iinc X.here C.hx rfl (hb C.hby d1_36) rfl (l' := #[.val (.int k), .val .null, .val (.ref s_ALL), .val (.int (2 : Int32)), .val (.int (1 : Int32)), .val (.ref s_JSON)]) rfl q) ?_
  refine Wk.st (g' := (mkF m 12 #[.val (.int k), .val .null, .val (.ref s_ALL), .val (.int (2 : Int32)), .val (.int (1 : Int32)), .val (.ref s_JSON)] [])) (fun X t q => XS.goto X.here C.hx rfl (pc0 := 39) (pc' := 12) rfl (hb C.hby d1_39) (by decide) (by decide) q) ?_
  refine Wk.st (g' := (mkF m 14 #[.val (.int k), .val .null, .val (.ref s_ALL), .val (.int (2 : Int32)), .val (.int (1 : Int32)), .val (.ref s_JSON)] [(.int (1 : Int32))])) (fun X t q => XS.iload X.here C.hx rfl (hb C.hby d1_12) rfl q) ?_
  refine Wk.st (g' := (mkF m 15 #[.val (.int k), .val .null, .val (.ref s_ALL), .val (.int (2 : Int32)), .val (.int (1 : Int32)), .val (.ref s_JSON)] [(.int (2 : Int32)), (.int (1 : Int32))])) (fun X t q => XS.iloadN X.here C.hx rfl (hb C.hby d1_14) rfl q) ?_
  refine Wk.st (g' := (mkF m 18 #[.val (.int k), .val .null, .val (.ref s_ALL), .val (.int (2 : Int32)), .val (.int (1 : Int32)), .val (.ref s_JSON)] [])) (fun X t q => XS.icmpNo X.here C.hx rfl (hb C.hby d1_15) rfl (XT.ii_ge_f (by decide)) q) ?_
  refine Wk.st (g' := (mkF m 19 #[.val (.int k), .val .null, .val (.ref s_ALL), .val (.int (2 : Int32)), .val (.int (1 : Int32)), .val (.ref s_JSON)] [(.ref s_ALL)])) (fun X t q => XS.aloadN X.here C.hx rfl (hb C.hby d1_18) rfl rfl q) ?_
  refine Wk.st (g' := (mkF m 21 #[.val (.int k), .val .null, .val (.ref s_ALL), .val (.int (2 : Int32)), .val (.int (1 : Int32)), .val (.ref s_JSON)] [(.int (1 : Int32)), (.ref s_ALL)])) (fun X t q => XS.iload X.here C.hx rfl (hb C.hby d1_19) rfl q) ?_
  refine Wk.ldR C AR.2.1 rfl (j := (1 : Int32)) (v := (.ref s_BINARY)) AR.2.2.2.2.1 AR.2.2.2.2.2 d1_21 ?_
  show Wk _ p l e _ s m _ below meth c n0 _ h0 0 0 (mkF m 22 #[.val (.int k), .val .null, .val (.ref s_ALL), .val (.int (2 : Int32)), .val (.int (1 : Int32)), .val (.ref s_JSON)] [(.ref s_BINARY)])
  refine Wk.st (g' := (mkF m 24 #[.val (.int k), .val .null, .val (.ref s_ALL), .val (.int (2 : Int32)), .val (.int (1 : Int32)), .val (.ref s_BINARY)] [])) (fun X t q => XS.astore X.here C.hx rfl (hb C.hby d1_22) rfl rfl (l' := #[.val (.int k), .val .null, .val (.ref s_ALL), .val (.int (2 : Int32)), .val (.int (1 : Int32)), .val (.ref s_BINARY)]) rfl q) ?_
  refine Wk.st (g' := (mkF m 26 #[.val (.int k), .val .null, .val (.ref s_ALL), .val (.int (2 : Int32)), .val (.int (1 : Int32)), .val (.ref s_BINARY)] [(.ref s_BINARY)])) (fun X t q => XS.aload X.here C.hx rfl (hb C.hby d1_24) rfl rfl q) ?_
  refine Wk.getF C (hw _ (List.mem_of_getElem? (i := 7) rfl)) Via.refl (en_O_BINARY_code EN) d1_26 ?_
  show Wk _ p l e _ s m _ below meth c n0 _ h0 0 0 (mkF m 29 #[.val (.int k), .val .null, .val (.ref s_ALL), .val (.int (2 : Int32)), .val (.int (1 : Int32)), .val (.ref s_BINARY)] [(.int (1 : Int32))])
  refine Wk.st (g' := (mkF m 30 #[.val (.int k), .val .null, .val (.ref s_ALL), .val (.int (2 : Int32)), .val (.int (1 : Int32)), .val (.ref s_BINARY)] [(.int k), (.int (1 : Int32))])) (fun X t q => XS.iloadN X.here C.hx rfl (hb C.hby d1_29) rfl q) ?_
  refine Wk.st (g' := (mkF m 36 #[.val (.int k), .val .null, .val (.ref s_ALL), .val (.int (2 : Int32)), .val (.int (1 : Int32)), .val (.ref s_BINARY)] [])) (fun X t q => XS.icmpYes X.here C.hx rfl (pc0 := 30) (pc' := 36) rfl (hb C.hby d1_30) rfl (XT.ii_ne_t (Ne.symm k1)) (by decide) (by decide) q) ?_
  refine Wk.st (g' := (mkF m 39 #[.val (.int k), .val .null, .val (.ref s_ALL), .val (.int (2 : Int32)), .val (.int (2 : Int32)), .val (.ref s_BINARY)] [])) (fun X t q => XS.iinc X.here C.hx rfl (hb C.hby d1_36) rfl (l' := #[.val (.int k), .val .null, .val (.ref s_ALL), .val (.int (2 : Int32)), .val (.int (2 : Int32)), .val (.ref s_BINARY)]) rfl q) ?_
  refine Wk.st (g' := (mkF m 12 #[.val (.int k), .val .null, .val (.ref s_ALL), .val (.int (2 : Int32)), .val (.int (2 : Int32)), .val (.ref s_BINARY)] [])) (fun X t q => XS.goto X.here C.hx rfl (pc0 := 39) (pc' := 12) rfl (hb C.hby d1_39) (by decide) (by decide) q) ?_
  refine Wk.st (g' := (mkF m 14 #[.val (.int k), .val .null, .val (.ref s_ALL), .val (.int (2 : Int32)), .val (.int (2 : Int32)), .val (.ref s_BINARY)] [(.int (2 : Int32))])) (fun X t q => XS.iload X.here C.hx rfl (hb C.hby d1_12) rfl q) ?_
  refine Wk.st (g' := (mkF m 15 #[.val (.int k), .val .null, .val (.ref s_ALL), .val (.int (2 : Int32)), .val (.int (2 : Int32)), .val (.ref s_BINARY)] [(.int (2 : Int32)), (.int (2 : Int32))])) (fun X t q => XS.iloadN X.here C.hx rfl (hb C.hby d1_14) rfl q) ?_
  refine Wk.st (g' := (mkF m 42 #[.val (.int k), .val .null, .val (.ref s_ALL), .val (.int (2 : Int32)), .val (.int (2 : Int32)), .val (.ref s_BINARY)] [])) (fun X t q => XS.icmpYes X.here C.hx rfl (pc0 := 15) (pc' := 42) rfl (hb C.hby d1_15) rfl (XT.ii_ge_t (by decide)) (by decide) (by decide) q) ?_
  refine Wk.st (g' := (mkF m 43 #[.val (.int k), .val .null, .val (.ref s_ALL), .val (.int (2 : Int32)), .val (.int (2 : Int32)), .val (.ref s_BINARY)] [.null])) (fun X t q => XS.aloadN X.here C.hx rfl (hb C.hby d1_42) rfl rfl q) ?_
  exact Wk.retV C (t := (.object "com/example/ample_queue/amplequeue/protocol/HeaderEncoding")) rfl rfl (Or.inr (Or.inr (Or.inr (Or.inr ⟨rfl, rfl, rfl⟩)))) d1_43 (by decide) (by decide) ⟨rfl, rfl⟩
set_option maxRecDepth 65536 in
set_option maxHeartbeats 40000000 in
theorem own_2_7 (l : Launch) (Z : State) (a0 : Array Value) (hw : ∀ d ∈ tables_1, d.before a0 Z = true) (n0 : Nat) (h0 : Heap) (s_JSON s_BINARY : Addr) (EN : Enm Z h0 s_JSON s_BINARY) (s_ALL : Addr) (cl : Cell) (AR : All Z h0 s_ALL cl s_JSON s_BINARY) (k : Int32) (k0 : ¬ k = 0) (k1 : ¬ k = 1) :
    Met false l Z n0 (⟨"com/example/ample_queue/amplequeue/protocol/HeaderEncodingOfPinLaw", "expected", "(I)Lcom/example/ample_queue/amplequeue/protocol/HeaderEncoding;"⟩ : MethodName) method_2_code 1 (some (.object "com/example/ample_queue/amplequeue/protocol/HeaderEncoding")) ({ frames := 0, cells := 0, slots := 0, locals := 0 } : Room) #[(.int k)] h0 (fun v h => v = some .null ∧ h0 = h) := by
  refine Met.of pn_1 #[.val (.int k)] (fun m => by first | (simp [entryFrame, mkF, argsToLocals, Value.category]; done) | rfl) ?_
  intro p e s m below meth c C
  refine Wk.st (g' := (mkF m 1 #[.val (.int k)] [(.int k)])) (fun X t q => XS.iloadN X.here C.hx rfl (hb C.hby d2_0) rfl q) ?_
  refine Wk.st (g' := (mkF m 8 #[.val (.int k)] [])) (fun X t q => XS.ifYes X.here C.hx rfl (pc0 := 1) (pc' := 8) rfl (hb C.hby d2_1) rfl (XT.i0_ne_t k0) (by decide) (by decide) q) ?_
  refine Wk.st (g' := (mkF m 9 #[.val (.int k)] [(.int k)])) (fun X t q => XS.iloadN X.here C.hx rfl (hb C.hby d2_8) rfl q) ?_
  refine Wk.st (g' := (mkF m 10 #[.val (.int k)] [(.int (1 : Int32)), (.int k)])) (fun X t q => XS.iconst X.here C.hx rfl (hb C.hby d2_9) q) ?_
  refine Wk.st (g' := (mkF m 17 #[.val (.int k)] [])) (fun X t q => XS.icmpYes X.here C.hx rfl (pc0 := 10) (pc' := 17) rfl (hb C.hby d2_10) rfl (XT.ii_ne_t k1) (by decide) (by decide) q) ?_
  refine Wk.st (g' := (mkF m 18 #[.val (.int k)] [.null])) (fun X t q => XS.aconstNull X.here C.hx rfl (hb C.hby d2_17) q) ?_
  exact Wk.retV C (t := (.object "com/example/ample_queue/amplequeue/protocol/HeaderEncoding")) rfl rfl (Or.inr (Or.inr (Or.inr (Or.inr ⟨rfl, rfl, rfl⟩)))) d2_18 (by decide) (by decide) ⟨rfl, rfl⟩
set_option maxRecDepth 65536 in
set_option maxHeartbeats 40000000 in
theorem law_met (l : Launch) (Z : State) (a0 : Array Value) (hw : ∀ d ∈ tables_1, d.before a0 Z = true) (n0 : Nat) (h0 : Heap) (i0 i1 : Int32) (s_JSON s_BINARY : Addr) (EN : Enm Z h0 s_JSON s_BINARY) (s_ALL : Addr) (cl : Cell) (AR : All Z h0 s_ALL cl s_JSON s_BINARY) :
    Met false l Z n0 x code maxLocals ret room_1 #[(.int i0), (.int i1)] h0 (fun v _ => v = some (.int 1) ∧ True) := by
  refine Met.of pn_1 #[.val (.int i0), .val (.int i1), .unset, .unset, .unset, .unset, .unset] (fun m => by first | (simp [entryFrame, mkF, argsToLocals, Value.category, maxLocals]; done) | rfl) ?_
  intro p e s m below meth c C
  refine Wk.st (g' := (mkF m 1 #[.val (.int i0), .val (.int i1), .unset, .unset, .unset, .unset, .unset] [(.int i1)])) (fun X t q => XS.iloadN X.here C.hx rfl (hb C.hby at_0) rfl q) ?_
  refine Wk.st (g' := (mkF m 2 #[.val (.int i0), .val (.int i1), .unset, .unset, .unset, .unset, .unset] [(.int (3 : Int32)), (.int i1)])) (fun X t q => XS.iconst X.here C.hx rfl (hb C.hby at_1) q) ?_
  refine Wk.st (g' := (mkF m 3 #[.val (.int i0), .val (.int i1), .unset, .unset, .unset, .unset, .unset] [(.int (i1 &&& (3 : Int32)))])) (fun X t q => XS.iand X.here C.hx rfl (hb C.hby at_2) rfl q) ?_
  refine Wk.st (g' := (mkF m 4 #[.val (.int i0), .val (.int i1), .val (.int (i1 &&& (3 : Int32))), .unset, .unset, .unset, .unset] [])) (fun X t q => XS.istoreN X.here C.hx rfl (hb C.hby at_3) rfl (l' := #[.val (.int i0), .val (.int i1), .val (.int (i1 &&& (3 : Int32))), .unset, .unset, .unset, .unset]) rfl q) ?_
  refine Wk.st (g' := (mkF m 5 #[.val (.int i0), .val (.int i1), .val (.int (i1 &&& (3 : Int32))), .unset, .unset, .unset, .unset] [(.int (i1 &&& (3 : Int32)))])) (fun X t q => XS.iloadN X.here C.hx rfl (hb C.hby at_4) rfl q) ?_
  by_cases hb1 : (i1 &&& (3 : Int32)) = (0 : Int32)
  · skip
    refine Wk.st (g' := (mkF m 8 #[.val (.int i0), .val (.int i1), .val (.int (i1 &&& (3 : Int32))), .unset, .unset, .unset, .unset] [])) (fun X t q => XS.ifNo X.here C.hx rfl (hb C.hby at_5) rfl (XT.i0_ne_f hb1) q) ?_
    refine Wk.st (g' := (mkF m 9 #[.val (.int i0), .val (.int i1), .val (.int (i1 &&& (3 : Int32))), .unset, .unset, .unset, .unset] [(.int (0 : Int32))])) (fun X t q => XS.iconst X.here C.hx rfl (hb C.hby at_8) q) ?_
    refine Wk.st (g' := (mkF m 10 #[.val (.int i0), .val (.int i1), .val (.int (i1 &&& (3 : Int32))), .val (.int (0 : Int32)), .unset, .unset, .unset] [])) (fun X t q => XS.istoreN X.here C.hx rfl (hb C.hby at_9) rfl (l' := #[.val (.int i0), .val (.int i1), .val (.int (i1 &&& (3 : Int32))), .val (.int (0 : Int32)), .unset, .unset, .unset]) rfl q) ?_
    refine Wk.st (g' := (mkF m 25 #[.val (.int i0), .val (.int i1), .val (.int (i1 &&& (3 : Int32))), .val (.int (0 : Int32)), .unset, .unset, .unset] [])) (fun X t q => XS.goto X.here C.hx rfl (pc0 := 10) (pc' := 25) rfl (hb C.hby at_10) (by decide) (by decide) q) ?_
    refine Wk.st (g' := (mkF m 26 #[.val (.int i0), .val (.int i1), .val (.int (i1 &&& (3 : Int32))), .val (.int (0 : Int32)), .unset, .unset, .unset] [(.int (0 : Int32))])) (fun X t q => XS.iloadN X.here C.hx rfl (hb C.hby at_25) rfl q) ?_
    refine Wk.callS C (z := (⟨"com/example/ample_queue/amplequeue/protocol/HeaderEncoding", "of", "(I)Lcom/example/ample_queue/amplequeue/protocol/HeaderEncoding;"⟩ : MethodName)) (hw _ (List.mem_of_getElem? (i := 0) rfl)) (hw _ (List.mem_of_getElem? (i := 1) rfl)) (hw _ (List.mem_of_getElem? (i := 2) rfl)) (hw _ (List.mem_of_getElem? (i := 3) rfl)) (by decide) (own_1_0 l Z a0 hw n0 h0 s_JSON s_BINARY EN s_ALL cl AR) (w := 0) (by decide) (by decide) pd_0 rfl (rest := []) rfl rfl (Nat.le_of_eq rfl) (by decide) (by decide) at_26 ?_
    rintro _ _ ⟨rfl, rfl⟩
    show Wk _ p l e _ s m _ below meth c n0 _ h0 0 0 (mkF m 29 #[.val (.int i0), .val (.int i1), .val (.int (i1 &&& (3 : Int32))), .val (.int (0 : Int32)), .unset, .unset, .unset] [(.ref s_JSON)])
    refine Wk.st (g' := (mkF m 31 #[.val (.int i0), .val (.int i1), .val (.int (i1 &&& (3 : Int32))), .val (.int (0 : Int32)), .val (.ref s_JSON), .unset, .unset] [])) (fun X t q => XS.astore X.here C.hx rfl (hb C.hby at_29) rfl rfl (l' := #[.val (.int i0), .val (.int i1), .val (.int (i1 &&& (3 : Int32))), .val (.int (0 : Int32)), .val (.ref s_JSON), .unset, .unset]) rfl q) ?_
    refine Wk.st (g' := (mkF m 33 #[.val (.int i0), .val (.int i1), .val (.int (i1 &&& (3 : Int32))), .val (.int (0 : Int32)), .val (.ref s_JSON), .unset, .unset] [(.ref s_JSON)])) (fun X t q => XS.aload X.here C.hx rfl (hb C.hby at_31) rfl rfl q) ?_
    refine Wk.st (g' := (mkF m 34 #[.val (.int i0), .val (.int i1), .val (.int (i1 &&& (3 : Int32))), .val (.int (0 : Int32)), .val (.ref s_JSON), .unset, .unset] [(.int (0 : Int32)), (.ref s_JSON)])) (fun X t q => XS.iloadN X.here C.hx rfl (hb C.hby at_33) rfl q) ?_
    refine Wk.callS C (z := (⟨"com/example/ample_queue/amplequeue/protocol/HeaderEncodingOfPinLaw", "expected", "(I)Lcom/example/ample_queue/amplequeue/protocol/HeaderEncoding;"⟩ : MethodName)) (hw _ (List.mem_of_getElem? (i := 10) rfl)) (hw _ (List.mem_of_getElem? (i := 11) rfl)) (hw _ (List.mem_of_getElem? (i := 12) rfl)) (hw _ (List.mem_of_getElem? (i := 13) rfl)) (by decide) (own_2_1 l Z a0 hw n0 h0 s_JSON s_BINARY EN s_ALL cl AR) (w := 1) (by decide) (by decide) pd_0 rfl (rest := [(.ref s_JSON)]) rfl rfl (Nat.le_of_eq rfl) (by decide) (by decide) at_34 ?_
    rintro _ _ ⟨rfl, rfl⟩
    show Wk _ p l e _ s m _ below meth c n0 _ h0 0 0 (mkF m 37 #[.val (.int i0), .val (.int i1), .val (.int (i1 &&& (3 : Int32))), .val (.int (0 : Int32)), .val (.ref s_JSON), .unset, .unset] [(.ref s_JSON), (.ref s_JSON)])
    refine Wk.st (g' := (mkF m 40 #[.val (.int i0), .val (.int i1), .val (.int (i1 &&& (3 : Int32))), .val (.int (0 : Int32)), .val (.ref s_JSON), .unset, .unset] [])) (fun X t q => Jvm.RoadKit.acmp (g := (mkF m 37 #[.val (.int i0), .val (.int i1), .val (.int (i1 &&& (3 : Int32))), .val (.int (0 : Int32)), .val (.ref s_JSON), .unset, .unset] [(.ref s_JSON), (.ref s_JSON)])) X C.hx rfl rfl rfl (pc0 := 37) (pc' := 40) (same := true) rfl (hb C.hby at_37) rfl (decide_eq_true (congrArg Value.ref rfl)) (by decide) (by decide) q) ?_
    refine Wk.st (g' := (mkF m 41 #[.val (.int i0), .val (.int i1), .val (.int (i1 &&& (3 : Int32))), .val (.int (0 : Int32)), .val (.ref s_JSON), .unset, .unset] [(.int (1 : Int32))])) (fun X t q => XS.iconst X.here C.hx rfl (hb C.hby at_40) q) ?_
    refine Wk.st (g' := (mkF m 45 #[.val (.int i0), .val (.int i1), .val (.int (i1 &&& (3 : Int32))), .val (.int (0 : Int32)), .val (.ref s_JSON), .unset, .unset] [(.int (1 : Int32))])) (fun X t q => XS.goto X.here C.hx rfl (pc0 := 41) (pc' := 45) rfl (hb C.hby at_41) (by decide) (by decide) q) ?_
    refine Wk.st (g' := (mkF m 47 #[.val (.int i0), .val (.int i1), .val (.int (i1 &&& (3 : Int32))), .val (.int (0 : Int32)), .val (.ref s_JSON), .val (.int (1 : Int32)), .unset] [])) (fun X t q => XS.istore X.here C.hx rfl (hb C.hby at_45) rfl (l' := #[.val (.int i0), .val (.int i1), .val (.int (i1 &&& (3 : Int32))), .val (.int (0 : Int32)), .val (.ref s_JSON), .val (.int (1 : Int32)), .unset]) rfl q) ?_
    refine Wk.getS C (hw _ (List.mem_of_getElem? (i := 14) rfl)) (en_S_JSON EN) at_47 ?_
    show Wk _ p l e _ s m _ below meth c n0 _ h0 0 0 (mkF m 50 #[.val (.int i0), .val (.int i1), .val (.int (i1 &&& (3 : Int32))), .val (.int (0 : Int32)), .val (.ref s_JSON), .val (.int (1 : Int32)), .unset] [(.ref s_JSON)])
    refine Wk.callV C (x := (⟨"com/example/ample_queue/amplequeue/protocol/HeaderEncoding", "code", "()I"⟩ : MethodName)) (z := (⟨"com/example/ample_queue/amplequeue/protocol/HeaderEncoding", "code", "()I"⟩ : MethodName)) (K := "com/example/ample_queue/amplequeue/protocol/HeaderEncoding") (hw _ (List.mem_of_getElem? (i := 15) rfl)) (hw _ (List.mem_of_getElem? (i := 16) rfl)) (hw _ (List.mem_of_getElem? (i := 18) rfl)) (hw _ (List.mem_of_getElem? (i := 17) rfl)) (hw _ (List.mem_of_getElem? (i := 2) rfl)) (hw _ (List.mem_of_getElem? (i := 19) rfl)) (by decide) (fun s' hZ' => notFace_of_selects (args := #[]) (mvT hZ' (hw _ (List.mem_of_getElem? (i := 18) rfl)))) (en_E_JSON EN) (own_3_2 l Z a0 hw n0 h0 s_JSON s_BINARY EN s_ALL cl AR) (w := 0) (by decide) (by decide) pd_1 rfl (rest := []) rfl rfl (Nat.le_of_eq rfl) (by decide) (by decide) at_50 ?_
    rintro _ _ ⟨rfl, rfl⟩
    show Wk _ p l e _ s m _ below meth c n0 _ h0 0 0 (mkF m 53 #[.val (.int i0), .val (.int i1), .val (.int (i1 &&& (3 : Int32))), .val (.int (0 : Int32)), .val (.ref s_JSON), .val (.int (1 : Int32)), .unset] [(.int (0 : Int32))])
    refine Wk.callS C (z := (⟨"com/example/ample_queue/amplequeue/protocol/HeaderEncoding", "of", "(I)Lcom/example/ample_queue/amplequeue/protocol/HeaderEncoding;"⟩ : MethodName)) (hw _ (List.mem_of_getElem? (i := 0) rfl)) (hw _ (List.mem_of_getElem? (i := 1) rfl)) (hw _ (List.mem_of_getElem? (i := 2) rfl)) (hw _ (List.mem_of_getElem? (i := 3) rfl)) (by decide) (own_1_0 l Z a0 hw n0 h0 s_JSON s_BINARY EN s_ALL cl AR) (w := 0) (by decide) (by decide) pd_0 rfl (rest := []) rfl rfl (Nat.le_of_eq rfl) (by decide) (by decide) at_53 ?_
    rintro _ _ ⟨rfl, rfl⟩
    show Wk _ p l e _ s m _ below meth c n0 _ h0 0 0 (mkF m 56 #[.val (.int i0), .val (.int i1), .val (.int (i1 &&& (3 : Int32))), .val (.int (0 : Int32)), .val (.ref s_JSON), .val (.int (1 : Int32)), .unset] [(.ref s_JSON)])
    refine Wk.getS C (hw _ (List.mem_of_getElem? (i := 14) rfl)) (en_S_JSON EN) at_56 ?_
    show Wk _ p l e _ s m _ below meth c n0 _ h0 0 0 (mkF m 59 #[.val (.int i0), .val (.int i1), .val (.int (i1 &&& (3 : Int32))), .val (.int (0 : Int32)), .val (.ref s_JSON), .val (.int (1 : Int32)), .unset] [(.ref s_JSON), (.ref s_JSON)])
    refine Wk.st (g' := (mkF m 62 #[.val (.int i0), .val (.int i1), .val (.int (i1 &&& (3 : Int32))), .val (.int (0 : Int32)), .val (.ref s_JSON), .val (.int (1 : Int32)), .unset] [])) (fun X t q => Jvm.RoadKit.acmp (g := (mkF m 59 #[.val (.int i0), .val (.int i1), .val (.int (i1 &&& (3 : Int32))), .val (.int (0 : Int32)), .val (.ref s_JSON), .val (.int (1 : Int32)), .unset] [(.ref s_JSON), (.ref s_JSON)])) X C.hx rfl rfl rfl (pc0 := 59) (pc' := 62) (same := true) rfl (hb C.hby at_59) rfl (decide_eq_true (congrArg Value.ref rfl)) (by decide) (by decide) q) ?_
    refine Wk.getS C (hw _ (List.mem_of_getElem? (i := 20) rfl)) (en_S_BINARY EN) at_62 ?_
    show Wk _ p l e _ s m _ below meth c n0 _ h0 0 0 (mkF m 65 #[.val (.int i0), .val (.int i1), .val (.int (i1 &&& (3 : Int32))), .val (.int (0 : Int32)), .val (.ref s_JSON), .val (.int (1 : Int32)), .unset] [(.ref s_BINARY)])
    refine Wk.callV C (x := (⟨"com/example/ample_queue/amplequeue/protocol/HeaderEncoding", "code", "()I"⟩ : MethodName)) (z := (⟨"com/example/ample_queue/amplequeue/protocol/HeaderEncoding", "code", "()I"⟩ : MethodName)) (K := "com/example/ample_queue/amplequeue/protocol/HeaderEncoding") (hw _ (List.mem_of_getElem? (i := 15) rfl)) (hw _ (List.mem_of_getElem? (i := 16) rfl)) (hw _ (List.mem_of_getElem? (i := 18) rfl)) (hw _ (List.mem_of_getElem? (i := 17) rfl)) (hw _ (List.mem_of_getElem? (i := 2) rfl)) (hw _ (List.mem_of_getElem? (i := 19) rfl)) (by decide) (fun s' hZ' => notFace_of_selects (args := #[]) (mvT hZ' (hw _ (List.mem_of_getElem? (i := 18) rfl)))) (en_E_BINARY EN) (own_3_3 l Z a0 hw n0 h0 s_JSON s_BINARY EN s_ALL cl AR) (w := 0) (by decide) (by decide) pd_1 rfl (rest := []) rfl rfl (Nat.le_of_eq rfl) (by decide) (by decide) at_65 ?_
    rintro _ _ ⟨rfl, rfl⟩
    show Wk _ p l e _ s m _ below meth c n0 _ h0 0 0 (mkF m 68 #[.val (.int i0), .val (.int i1), .val (.int (i1 &&& (3 : Int32))), .val (.int (0 : Int32)), .val (.ref s_JSON), .val (.int (1 : Int32)), .unset] [(.int (1 : Int32))])
    refine Wk.callS C (z := (⟨"com/example/ample_queue/amplequeue/protocol/HeaderEncoding", "of", "(I)Lcom/example/ample_queue/amplequeue/protocol/HeaderEncoding;"⟩ : MethodName)) (hw _ (List.mem_of_getElem? (i := 0) rfl)) (hw _ (List.mem_of_getElem? (i := 1) rfl)) (hw _ (List.mem_of_getElem? (i := 2) rfl)) (hw _ (List.mem_of_getElem? (i := 3) rfl)) (by decide) (own_1_4 l Z a0 hw n0 h0 s_JSON s_BINARY EN s_ALL cl AR) (w := 0) (by decide) (by decide) pd_0 rfl (rest := []) rfl rfl (Nat.le_of_eq rfl) (by decide) (by decide) at_68 ?_
    rintro _ _ ⟨rfl, rfl⟩
    show Wk _ p l e _ s m _ below meth c n0 _ h0 0 0 (mkF m 71 #[.val (.int i0), .val (.int i1), .val (.int (i1 &&& (3 : Int32))), .val (.int (0 : Int32)), .val (.ref s_JSON), .val (.int (1 : Int32)), .unset] [(.ref s_BINARY)])
    refine Wk.getS C (hw _ (List.mem_of_getElem? (i := 20) rfl)) (en_S_BINARY EN) at_71 ?_
    show Wk _ p l e _ s m _ below meth c n0 _ h0 0 0 (mkF m 74 #[.val (.int i0), .val (.int i1), .val (.int (i1 &&& (3 : Int32))), .val (.int (0 : Int32)), .val (.ref s_JSON), .val (.int (1 : Int32)), .unset] [(.ref s_BINARY), (.ref s_BINARY)])
    refine Wk.st (g' := (mkF m 77 #[.val (.int i0), .val (.int i1), .val (.int (i1 &&& (3 : Int32))), .val (.int (0 : Int32)), .val (.ref s_JSON), .val (.int (1 : Int32)), .unset] [])) (fun X t q => Jvm.RoadKit.acmp (g := (mkF m 74 #[.val (.int i0), .val (.int i1), .val (.int (i1 &&& (3 : Int32))), .val (.int (0 : Int32)), .val (.ref s_JSON), .val (.int (1 : Int32)), .unset] [(.ref s_BINARY), (.ref s_BINARY)])) X C.hx rfl rfl rfl (pc0 := 74) (pc' := 77) (same := true) rfl (hb C.hby at_74) rfl (decide_eq_true (congrArg Value.ref rfl)) (by decide) (by decide) q) ?_
    refine Wk.st (g' := (mkF m 78 #[.val (.int i0), .val (.int i1), .val (.int (i1 &&& (3 : Int32))), .val (.int (0 : Int32)), .val (.ref s_JSON), .val (.int (1 : Int32)), .unset] [(.int (1 : Int32))])) (fun X t q => XS.iconst X.here C.hx rfl (hb C.hby at_77) q) ?_
    refine Wk.st (g' := (mkF m 82 #[.val (.int i0), .val (.int i1), .val (.int (i1 &&& (3 : Int32))), .val (.int (0 : Int32)), .val (.ref s_JSON), .val (.int (1 : Int32)), .unset] [(.int (1 : Int32))])) (fun X t q => XS.goto X.here C.hx rfl (pc0 := 78) (pc' := 82) rfl (hb C.hby at_78) (by decide) (by decide) q) ?_
    refine Wk.st (g' := (mkF m 84 #[.val (.int i0), .val (.int i1), .val (.int (i1 &&& (3 : Int32))), .val (.int (0 : Int32)), .val (.ref s_JSON), .val (.int (1 : Int32)), .val (.int (1 : Int32))] [])) (fun X t q => XS.istore X.here C.hx rfl (hb C.hby at_82) rfl (l' := #[.val (.int i0), .val (.int i1), .val (.int (i1 &&& (3 : Int32))), .val (.int (0 : Int32)), .val (.ref s_JSON), .val (.int (1 : Int32)), .val (.int (1 : Int32))]) rfl q) ?_
    refine Wk.st (g' := (mkF m 86 #[.val (.int i0), .val (.int i1), .val (.int (i1 &&& (3 : Int32))), .val (.int (0 : Int32)), .val (.ref s_JSON), .val (.int (1 : Int32)), .val (.int (1 : Int32))] [(.int (1 : Int32))])) (fun X t q => XS.iload X.here C.hx rfl (hb C.hby at_84) rfl q) ?_
    refine Wk.st (g' := (mkF m 89 #[.val (.int i0), .val (.int i1), .val (.int (i1 &&& (3 : Int32))), .val (.int (0 : Int32)), .val (.ref s_JSON), .val (.int (1 : Int32)), .val (.int (1 : Int32))] [])) (fun X t q => XS.ifNo X.here C.hx rfl (hb C.hby at_86) rfl (XT.i0_eq_f (by decide)) q) ?_
    refine Wk.st (g' := (mkF m 91 #[.val (.int i0), .val (.int i1), .val (.int (i1 &&& (3 : Int32))), .val (.int (0 : Int32)), .val (.ref s_JSON), .val (.int (1 : Int32)), .val (.int (1 : Int32))] [(.int (1 : Int32))])) (fun X t q => XS.iload X.here C.hx rfl (hb C.hby at_89) rfl q) ?_
    refine Wk.st (g' := (mkF m 94 #[.val (.int i0), .val (.int i1), .val (.int (i1 &&& (3 : Int32))), .val (.int (0 : Int32)), .val (.ref s_JSON), .val (.int (1 : Int32)), .val (.int (1 : Int32))] [])) (fun X t q => XS.ifNo X.here C.hx rfl (hb C.hby at_91) rfl (XT.i0_eq_f (by decide)) q) ?_
    refine Wk.st (g' := (mkF m 95 #[.val (.int i0), .val (.int i1), .val (.int (i1 &&& (3 : Int32))), .val (.int (0 : Int32)), .val (.ref s_JSON), .val (.int (1 : Int32)), .val (.int (1 : Int32))] [(.int (1 : Int32))])) (fun X t q => XS.iconst X.here C.hx rfl (hb C.hby at_94) q) ?_
    refine Wk.st (g' := (mkF m 99 #[.val (.int i0), .val (.int i1), .val (.int (i1 &&& (3 : Int32))), .val (.int (0 : Int32)), .val (.ref s_JSON), .val (.int (1 : Int32)), .val (.int (1 : Int32))] [(.int (1 : Int32))])) (fun X t q => XS.goto X.here C.hx rfl (pc0 := 95) (pc' := 99) rfl (hb C.hby at_95) (by decide) (by decide) q) ?_
    exact Wk.retV C (t := .boolean) rfl rfl (Or.inl ⟨rfl, by simp, _, rfl⟩) at_99 (by decide) (by decide) ⟨rfl, trivial⟩
  · skip
    refine Wk.st (g' := (mkF m 13 #[.val (.int i0), .val (.int i1), .val (.int (i1 &&& (3 : Int32))), .unset, .unset, .unset, .unset] [])) (fun X t q => XS.ifYes X.here C.hx rfl (pc0 := 5) (pc' := 13) rfl (hb C.hby at_5) rfl (XT.i0_ne_t hb1) (by decide) (by decide) q) ?_
    refine Wk.st (g' := (mkF m 14 #[.val (.int i0), .val (.int i1), .val (.int (i1 &&& (3 : Int32))), .unset, .unset, .unset, .unset] [(.int (i1 &&& (3 : Int32)))])) (fun X t q => XS.iloadN X.here C.hx rfl (hb C.hby at_13) rfl q) ?_
    refine Wk.st (g' := (mkF m 15 #[.val (.int i0), .val (.int i1), .val (.int (i1 &&& (3 : Int32))), .unset, .unset, .unset, .unset] [(.int (1 : Int32)), (.int (i1 &&& (3 : Int32)))])) (fun X t q => XS.iconst X.here C.hx rfl (hb C.hby at_14) q) ?_
    by_cases hb2 : (i1 &&& (3 : Int32)) = (1 : Int32)
    · skip
      refine Wk.st (g' := (mkF m 18 #[.val (.int i0), .val (.int i1), .val (.int (i1 &&& (3 : Int32))), .unset, .unset, .unset, .unset] [])) (fun X t q => XS.icmpNo X.here C.hx rfl (hb C.hby at_15) rfl (XT.ii_ne_f hb2) q) ?_
      refine Wk.st (g' := (mkF m 19 #[.val (.int i0), .val (.int i1), .val (.int (i1 &&& (3 : Int32))), .unset, .unset, .unset, .unset] [(.int (1 : Int32))])) (fun X t q => XS.iconst X.here C.hx rfl (hb C.hby at_18) q) ?_
      refine Wk.st (g' := (mkF m 20 #[.val (.int i0), .val (.int i1), .val (.int (i1 &&& (3 : Int32))), .val (.int (1 : Int32)), .unset, .unset, .unset] [])) (fun X t q => XS.istoreN X.here C.hx rfl (hb C.hby at_19) rfl (l' := #[.val (.int i0), .val (.int i1), .val (.int (i1 &&& (3 : Int32))), .val (.int (1 : Int32)), .unset, .unset, .unset]) rfl q) ?_
      refine Wk.st (g' := (mkF m 25 #[.val (.int i0), .val (.int i1), .val (.int (i1 &&& (3 : Int32))), .val (.int (1 : Int32)), .unset, .unset, .unset] [])) (fun X t q => XS.goto X.here C.hx rfl (pc0 := 20) (pc' := 25) rfl (hb C.hby at_20) (by decide) (by decide) q) ?_
      refine Wk.st (g' := (mkF m 26 #[.val (.int i0), .val (.int i1), .val (.int (i1 &&& (3 : Int32))), .val (.int (1 : Int32)), .unset, .unset, .unset] [(.int (1 : Int32))])) (fun X t q => XS.iloadN X.here C.hx rfl (hb C.hby at_25) rfl q) ?_
      refine Wk.callS C (z := (⟨"com/example/ample_queue/amplequeue/protocol/HeaderEncoding", "of", "(I)Lcom/example/ample_queue/amplequeue/protocol/HeaderEncoding;"⟩ : MethodName)) (hw _ (List.mem_of_getElem? (i := 0) rfl)) (hw _ (List.mem_of_getElem? (i := 1) rfl)) (hw _ (List.mem_of_getElem? (i := 2) rfl)) (hw _ (List.mem_of_getElem? (i := 3) rfl)) (by decide) (own_1_4 l Z a0 hw n0 h0 s_JSON s_BINARY EN s_ALL cl AR) (w := 0) (by decide) (by decide) pd_0 rfl (rest := []) rfl rfl (Nat.le_of_eq rfl) (by decide) (by decide) at_26 ?_
      rintro _ _ ⟨rfl, rfl⟩
      show Wk _ p l e _ s m _ below meth c n0 _ h0 0 0 (mkF m 29 #[.val (.int i0), .val (.int i1), .val (.int (i1 &&& (3 : Int32))), .val (.int (1 : Int32)), .unset, .unset, .unset] [(.ref s_BINARY)])
      refine Wk.st (g' := (mkF m 31 #[.val (.int i0), .val (.int i1), .val (.int (i1 &&& (3 : Int32))), .val (.int (1 : Int32)), .val (.ref s_BINARY), .unset, .unset] [])) (fun X t q => XS.astore X.here C.hx rfl (hb C.hby at_29) rfl rfl (l' := #[.val (.int i0), .val (.int i1), .val (.int (i1 &&& (3 : Int32))), .val (.int (1 : Int32)), .val (.ref s_BINARY), .unset, .unset]) rfl q) ?_
      refine Wk.st (g' := (mkF m 33 #[.val (.int i0), .val (.int i1), .val (.int (i1 &&& (3 : Int32))), .val (.int (1 : Int32)), .val (.ref s_BINARY), .unset, .unset] [(.ref s_BINARY)])) (fun X t q => XS.aload X.here C.hx rfl (hb C.hby at_31) rfl rfl q) ?_
      refine Wk.st (g' := (mkF m 34 #[.val (.int i0), .val (.int i1), .val (.int (i1 &&& (3 : Int32))), .val (.int (1 : Int32)), .val (.ref s_BINARY), .unset, .unset] [(.int (1 : Int32)), (.ref s_BINARY)])) (fun X t q => XS.iloadN X.here C.hx rfl (hb C.hby at_33) rfl q) ?_
      refine Wk.callS C (z := (⟨"com/example/ample_queue/amplequeue/protocol/HeaderEncodingOfPinLaw", "expected", "(I)Lcom/example/ample_queue/amplequeue/protocol/HeaderEncoding;"⟩ : MethodName)) (hw _ (List.mem_of_getElem? (i := 10) rfl)) (hw _ (List.mem_of_getElem? (i := 11) rfl)) (hw _ (List.mem_of_getElem? (i := 12) rfl)) (hw _ (List.mem_of_getElem? (i := 13) rfl)) (by decide) (own_2_5 l Z a0 hw n0 h0 s_JSON s_BINARY EN s_ALL cl AR) (w := 1) (by decide) (by decide) pd_0 rfl (rest := [(.ref s_BINARY)]) rfl rfl (Nat.le_of_eq rfl) (by decide) (by decide) at_34 ?_
      rintro _ _ ⟨rfl, rfl⟩
      show Wk _ p l e _ s m _ below meth c n0 _ h0 0 0 (mkF m 37 #[.val (.int i0), .val (.int i1), .val (.int (i1 &&& (3 : Int32))), .val (.int (1 : Int32)), .val (.ref s_BINARY), .unset, .unset] [(.ref s_BINARY), (.ref s_BINARY)])
      refine Wk.st (g' := (mkF m 40 #[.val (.int i0), .val (.int i1), .val (.int (i1 &&& (3 : Int32))), .val (.int (1 : Int32)), .val (.ref s_BINARY), .unset, .unset] [])) (fun X t q => Jvm.RoadKit.acmp (g := (mkF m 37 #[.val (.int i0), .val (.int i1), .val (.int (i1 &&& (3 : Int32))), .val (.int (1 : Int32)), .val (.ref s_BINARY), .unset, .unset] [(.ref s_BINARY), (.ref s_BINARY)])) X C.hx rfl rfl rfl (pc0 := 37) (pc' := 40) (same := true) rfl (hb C.hby at_37) rfl (decide_eq_true (congrArg Value.ref rfl)) (by decide) (by decide) q) ?_
      refine Wk.st (g' := (mkF m 41 #[.val (.int i0), .val (.int i1), .val (.int (i1 &&& (3 : Int32))), .val (.int (1 : Int32)), .val (.ref s_BINARY), .unset, .unset] [(.int (1 : Int32))])) (fun X t q => XS.iconst X.here C.hx rfl (hb C.hby at_40) q) ?_
      refine Wk.st (g' := (mkF m 45 #[.val (.int i0), .val (.int i1), .val (.int (i1 &&& (3 : Int32))), .val (.int (1 : Int32)), .val (.ref s_BINARY), .unset, .unset] [(.int (1 : Int32))])) (fun X t q => XS.goto X.here C.hx rfl (pc0 := 41) (pc' := 45) rfl (hb C.hby at_41) (by decide) (by decide) q) ?_
      refine Wk.st (g' := (mkF m 47 #[.val (.int i0), .val (.int i1), .val (.int (i1 &&& (3 : Int32))), .val (.int (1 : Int32)), .val (.ref s_BINARY), .val (.int (1 : Int32)), .unset] [])) (fun X t q => XS.istore X.here C.hx rfl (hb C.hby at_45) rfl (l' := #[.val (.int i0), .val (.int i1), .val (.int (i1 &&& (3 : Int32))), .val (.int (1 : Int32)), .val (.ref s_BINARY), .val (.int (1 : Int32)), .unset]) rfl q) ?_
      refine Wk.getS C (hw _ (List.mem_of_getElem? (i := 14) rfl)) (en_S_JSON EN) at_47 ?_
      show Wk _ p l e _ s m _ below meth c n0 _ h0 0 0 (mkF m 50 #[.val (.int i0), .val (.int i1), .val (.int (i1 &&& (3 : Int32))), .val (.int (1 : Int32)), .val (.ref s_BINARY), .val (.int (1 : Int32)), .unset] [(.ref s_JSON)])
      refine Wk.callV C (x := (⟨"com/example/ample_queue/amplequeue/protocol/HeaderEncoding", "code", "()I"⟩ : MethodName)) (z := (⟨"com/example/ample_queue/amplequeue/protocol/HeaderEncoding", "code", "()I"⟩ : MethodName)) (K := "com/example/ample_queue/amplequeue/protocol/HeaderEncoding") (hw _ (List.mem_of_getElem? (i := 15) rfl)) (hw _ (List.mem_of_getElem? (i := 16) rfl)) (hw _ (List.mem_of_getElem? (i := 18) rfl)) (hw _ (List.mem_of_getElem? (i := 17) rfl)) (hw _ (List.mem_of_getElem? (i := 2) rfl)) (hw _ (List.mem_of_getElem? (i := 19) rfl)) (by decide) (fun s' hZ' => notFace_of_selects (args := #[]) (mvT hZ' (hw _ (List.mem_of_getElem? (i := 18) rfl)))) (en_E_JSON EN) (own_3_2 l Z a0 hw n0 h0 s_JSON s_BINARY EN s_ALL cl AR) (w := 0) (by decide) (by decide) pd_1 rfl (rest := []) rfl rfl (Nat.le_of_eq rfl) (by decide) (by decide) at_50 ?_
      rintro _ _ ⟨rfl, rfl⟩
      show Wk _ p l e _ s m _ below meth c n0 _ h0 0 0 (mkF m 53 #[.val (.int i0), .val (.int i1), .val (.int (i1 &&& (3 : Int32))), .val (.int (1 : Int32)), .val (.ref s_BINARY), .val (.int (1 : Int32)), .unset] [(.int (0 : Int32))])
      refine Wk.callS C (z := (⟨"com/example/ample_queue/amplequeue/protocol/HeaderEncoding", "of", "(I)Lcom/example/ample_queue/amplequeue/protocol/HeaderEncoding;"⟩ : MethodName)) (hw _ (List.mem_of_getElem? (i := 0) rfl)) (hw _ (List.mem_of_getElem? (i := 1) rfl)) (hw _ (List.mem_of_getElem? (i := 2) rfl)) (hw _ (List.mem_of_getElem? (i := 3) rfl)) (by decide) (own_1_0 l Z a0 hw n0 h0 s_JSON s_BINARY EN s_ALL cl AR) (w := 0) (by decide) (by decide) pd_0 rfl (rest := []) rfl rfl (Nat.le_of_eq rfl) (by decide) (by decide) at_53 ?_
      rintro _ _ ⟨rfl, rfl⟩
      show Wk _ p l e _ s m _ below meth c n0 _ h0 0 0 (mkF m 56 #[.val (.int i0), .val (.int i1), .val (.int (i1 &&& (3 : Int32))), .val (.int (1 : Int32)), .val (.ref s_BINARY), .val (.int (1 : Int32)), .unset] [(.ref s_JSON)])
      refine Wk.getS C (hw _ (List.mem_of_getElem? (i := 14) rfl)) (en_S_JSON EN) at_56 ?_
      show Wk _ p l e _ s m _ below meth c n0 _ h0 0 0 (mkF m 59 #[.val (.int i0), .val (.int i1), .val (.int (i1 &&& (3 : Int32))), .val (.int (1 : Int32)), .val (.ref s_BINARY), .val (.int (1 : Int32)), .unset] [(.ref s_JSON), (.ref s_JSON)])
      refine Wk.st (g' := (mkF m 62 #[.val (.int i0), .val (.int i1), .val (.int (i1 &&& (3 : Int32))), .val (.int (1 : Int32)), .val (.ref s_BINARY), .val (.int (1 : Int32)), .unset] [])) (fun X t q => Jvm.RoadKit.acmp (g := (mkF m 59 #[.val (.int i0), .val (.int i1), .val (.int (i1 &&& (3 : Int32))), .val (.int (1 : Int32)), .val (.ref s_BINARY), .val (.int (1 : Int32)), .unset] [(.ref s_JSON), (.ref s_JSON)])) X C.hx rfl rfl rfl (pc0 := 59) (pc' := 62) (same := true) rfl (hb C.hby at_59) rfl (decide_eq_true (congrArg Value.ref rfl)) (by decide) (by decide) q) ?_
      refine Wk.getS C (hw _ (List.mem_of_getElem? (i := 20) rfl)) (en_S_BINARY EN) at_62 ?_
      show Wk _ p l e _ s m _ below meth c n0 _ h0 0 0 (mkF m 65 #[.val (.int i0), .val (.int i1), .val (.int (i1 &&& (3 : Int32))), .val (.int (1 : Int32)), .val (.ref s_BINARY), .val (.int (1 : Int32)), .unset] [(.ref s_BINARY)])
      refine Wk.callV C (x := (⟨"com/example/ample_queue/amplequeue/protocol/HeaderEncoding", "code", "()I"⟩ : MethodName)) (z := (⟨"com/example/ample_queue/amplequeue/protocol/HeaderEncoding", "code", "()I"⟩ : MethodName)) (K := "com/example/ample_queue/amplequeue/protocol/HeaderEncoding") (hw _ (List.mem_of_getElem? (i := 15) rfl)) (hw _ (List.mem_of_getElem? (i := 16) rfl)) (hw _ (List.mem_of_getElem? (i := 18) rfl)) (hw _ (List.mem_of_getElem? (i := 17) rfl)) (hw _ (List.mem_of_getElem? (i := 2) rfl)) (hw _ (List.mem_of_getElem? (i := 19) rfl)) (by decide) (fun s' hZ' => notFace_of_selects (args := #[]) (mvT hZ' (hw _ (List.mem_of_getElem? (i := 18) rfl)))) (en_E_BINARY EN) (own_3_3 l Z a0 hw n0 h0 s_JSON s_BINARY EN s_ALL cl AR) (w := 0) (by decide) (by decide) pd_1 rfl (rest := []) rfl rfl (Nat.le_of_eq rfl) (by decide) (by decide) at_65 ?_
      rintro _ _ ⟨rfl, rfl⟩
      show Wk _ p l e _ s m _ below meth c n0 _ h0 0 0 (mkF m 68 #[.val (.int i0), .val (.int i1), .val (.int (i1 &&& (3 : Int32))), .val (.int (1 : Int32)), .val (.ref s_BINARY), .val (.int (1 : Int32)), .unset] [(.int (1 : Int32))])
      refine Wk.callS C (z := (⟨"com/example/ample_queue/amplequeue/protocol/HeaderEncoding", "of", "(I)Lcom/example/ample_queue/amplequeue/protocol/HeaderEncoding;"⟩ : MethodName)) (hw _ (List.mem_of_getElem? (i := 0) rfl)) (hw _ (List.mem_of_getElem? (i := 1) rfl)) (hw _ (List.mem_of_getElem? (i := 2) rfl)) (hw _ (List.mem_of_getElem? (i := 3) rfl)) (by decide) (own_1_4 l Z a0 hw n0 h0 s_JSON s_BINARY EN s_ALL cl AR) (w := 0) (by decide) (by decide) pd_0 rfl (rest := []) rfl rfl (Nat.le_of_eq rfl) (by decide) (by decide) at_68 ?_
      rintro _ _ ⟨rfl, rfl⟩
      show Wk _ p l e _ s m _ below meth c n0 _ h0 0 0 (mkF m 71 #[.val (.int i0), .val (.int i1), .val (.int (i1 &&& (3 : Int32))), .val (.int (1 : Int32)), .val (.ref s_BINARY), .val (.int (1 : Int32)), .unset] [(.ref s_BINARY)])
      refine Wk.getS C (hw _ (List.mem_of_getElem? (i := 20) rfl)) (en_S_BINARY EN) at_71 ?_
      show Wk _ p l e _ s m _ below meth c n0 _ h0 0 0 (mkF m 74 #[.val (.int i0), .val (.int i1), .val (.int (i1 &&& (3 : Int32))), .val (.int (1 : Int32)), .val (.ref s_BINARY), .val (.int (1 : Int32)), .unset] [(.ref s_BINARY), (.ref s_BINARY)])
      refine Wk.st (g' := (mkF m 77 #[.val (.int i0), .val (.int i1), .val (.int (i1 &&& (3 : Int32))), .val (.int (1 : Int32)), .val (.ref s_BINARY), .val (.int (1 : Int32)), .unset] [])) (fun X t q => Jvm.RoadKit.acmp (g := (mkF m 74 #[.val (.int i0), .val (.int i1), .val (.int (i1 &&& (3 : Int32))), .val (.int (1 : Int32)), .val (.ref s_BINARY), .val (.int (1 : Int32)), .unset] [(.ref s_BINARY), (.ref s_BINARY)])) X C.hx rfl rfl rfl (pc0 := 74) (pc' := 77) (same := true) rfl (hb C.hby at_74) rfl (decide_eq_true (congrArg Value.ref rfl)) (by decide) (by decide) q) ?_
      refine Wk.st (g' := (mkF m 78 #[.val (.int i0), .val (.int i1), .val (.int (i1 &&& (3 : Int32))), .val (.int (1 : Int32)), .val (.ref s_BINARY), .val (.int (1 : Int32)), .unset] [(.int (1 : Int32))])) (fun X t q => XS.iconst X.here C.hx rfl (hb C.hby at_77) q) ?_
      refine Wk.st (g' := (mkF m 82 #[.val (.int i0), .val (.int i1), .val (.int (i1 &&& (3 : Int32))), .val (.int (1 : Int32)), .val (.ref s_BINARY), .val (.int (1 : Int32)), .unset] [(.int (1 : Int32))])) (fun X t q => XS.goto X.here C.hx rfl (pc0 := 78) (pc' := 82) rfl (hb C.hby at_78) (by decide) (by decide) q) ?_
      refine Wk.st (g' := (mkF m 84 #[.val (.int i0), .val (.int i1), .val (.int (i1 &&& (3 : Int32))), .val (.int (1 : Int32)), .val (.ref s_BINARY), .val (.int (1 : Int32)), .val (.int (1 : Int32))] [])) (fun X t q => XS.istore X.here C.hx rfl (hb C.hby at_82) rfl (l' := #[.val (.int i0), .val (.int i1), .val (.int (i1 &&& (3 : Int32))), .val (.int (1 : Int32)), .val (.ref s_BINARY), .val (.int (1 : Int32)), .val (.int (1 : Int32))]) rfl q) ?_
      refine Wk.st (g' := (mkF m 86 #[.val (.int i0), .val (.int i1), .val (.int (i1 &&& (3 : Int32))), .val (.int (1 : Int32)), .val (.ref s_BINARY), .val (.int (1 : Int32)), .val (.int (1 : Int32))] [(.int (1 : Int32))])) (fun X t q => XS.iload X.here C.hx rfl (hb C.hby at_84) rfl q) ?_
      refine Wk.st (g' := (mkF m 89 #[.val (.int i0), .val (.int i1), .val (.int (i1 &&& (3 : Int32))), .val (.int (1 : Int32)), .val (.ref s_BINARY), .val (.int (1 : Int32)), .val (.int (1 : Int32))] [])) (fun X t q => XS.ifNo X.here C.hx rfl (hb C.hby at_86) rfl (XT.i0_eq_f (by decide)) q) ?_
      refine Wk.st (g' := (mkF m 91 #[.val (.int i0), .val (.int i1), .val (.int (i1 &&& (3 : Int32))), .val (.int (1 : Int32)), .val (.ref s_BINARY), .val (.int (1 : Int32)), .val (.int (1 : Int32))] [(.int (1 : Int32))])) (fun X t q => XS.iload X.here C.hx rfl (hb C.hby at_89) rfl q) ?_
      refine Wk.st (g' := (mkF m 94 #[.val (.int i0), .val (.int i1), .val (.int (i1 &&& (3 : Int32))), .val (.int (1 : Int32)), .val (.ref s_BINARY), .val (.int (1 : Int32)), .val (.int (1 : Int32))] [])) (fun X t q => XS.ifNo X.here C.hx rfl (hb C.hby at_91) rfl (XT.i0_eq_f (by decide)) q) ?_
      refine Wk.st (g' := (mkF m 95 #[.val (.int i0), .val (.int i1), .val (.int (i1 &&& (3 : Int32))), .val (.int (1 : Int32)), .val (.ref s_BINARY), .val (.int (1 : Int32)), .val (.int (1 : Int32))] [(.int (1 : Int32))])) (fun X t q => XS.iconst X.here C.hx rfl (hb C.hby at_94) q) ?_
      refine Wk.st (g' := (mkF m 99 #[.val (.int i0), .val (.int i1), .val (.int (i1 &&& (3 : Int32))), .val (.int (1 : Int32)), .val (.ref s_BINARY), .val (.int (1 : Int32)), .val (.int (1 : Int32))] [(.int (1 : Int32))])) (fun X t q => XS.goto X.here C.hx rfl (pc0 := 95) (pc' := 99) rfl (hb C.hby at_95) (by decide) (by decide) q) ?_
      exact Wk.retV C (t := .boolean) rfl rfl (Or.inl ⟨rfl, by simp, _, rfl⟩) at_99 (by decide) (by decide) ⟨rfl, trivial⟩
    · skip
      refine Wk.st (g' := (mkF m 23 #[.val (.int i0), .val (.int i1), .val (.int (i1 &&& (3 : Int32))), .unset, .unset, .unset, .unset] [])) (fun X t q => XS.icmpYes X.here C.hx rfl (pc0 := 15) (pc' := 23) rfl (hb C.hby at_15) rfl (XT.ii_ne_t hb2) (by decide) (by decide) q) ?_
      refine Wk.st (g' := (mkF m 24 #[.val (.int i0), .val (.int i1), .val (.int (i1 &&& (3 : Int32))), .unset, .unset, .unset, .unset] [(.int i0)])) (fun X t q => XS.iloadN X.here C.hx rfl (hb C.hby at_23) rfl q) ?_
      refine Wk.st (g' := (mkF m 25 #[.val (.int i0), .val (.int i1), .val (.int (i1 &&& (3 : Int32))), .val (.int i0), .unset, .unset, .unset] [])) (fun X t q => XS.istoreN X.here C.hx rfl (hb C.hby at_24) rfl (l' := #[.val (.int i0), .val (.int i1), .val (.int (i1 &&& (3 : Int32))), .val (.int i0), .unset, .unset, .unset]) rfl q) ?_
      by_cases k0 : i0 = 0
      · subst k0
        show Wk _ p l e _ s m _ below meth c n0 _ h0 0 0 (mkF m 25 #[.val (.int (0 : Int32)), .val (.int i1), .val (.int (i1 &&& (3 : Int32))), .val (.int (0 : Int32)), .unset, .unset, .unset] [])
        refine Wk.st (g' := (mkF m 26 #[.val (.int (0 : Int32)), .val (.int i1), .val (.int (i1 &&& (3 : Int32))), .val (.int (0 : Int32)), .unset, .unset, .unset] [(.int (0 : Int32))])) (fun X t q => XS.iloadN X.here C.hx rfl (hb C.hby at_25) rfl q) ?_
        refine Wk.callS C (z := (⟨"com/example/ample_queue/amplequeue/protocol/HeaderEncoding", "of", "(I)Lcom/example/ample_queue/amplequeue/protocol/HeaderEncoding;"⟩ : MethodName)) (hw _ (List.mem_of_getElem? (i := 0) rfl)) (hw _ (List.mem_of_getElem? (i := 1) rfl)) (hw _ (List.mem_of_getElem? (i := 2) rfl)) (hw _ (List.mem_of_getElem? (i := 3) rfl)) (by decide) (own_1_0 l Z a0 hw n0 h0 s_JSON s_BINARY EN s_ALL cl AR) (w := 0) (by decide) (by decide) pd_0 rfl (rest := []) rfl rfl (Nat.le_of_eq rfl) (by decide) (by decide) at_26 ?_
        rintro _ _ ⟨rfl, rfl⟩
        show Wk _ p l e _ s m _ below meth c n0 _ h0 0 0 (mkF m 29 #[.val (.int (0 : Int32)), .val (.int i1), .val (.int (i1 &&& (3 : Int32))), .val (.int (0 : Int32)), .unset, .unset, .unset] [(.ref s_JSON)])
        refine Wk.st (g' := (mkF m 31 #[.val (.int (0 : Int32)), .val (.int i1), .val (.int (i1 &&& (3 : Int32))), .val (.int (0 : Int32)), .val (.ref s_JSON), .unset, .unset] [])) (fun X t q => XS.astore X.here C.hx rfl (hb C.hby at_29) rfl rfl (l' := #[.val (.int (0 : Int32)), .val (.int i1), .val (.int (i1 &&& (3 : Int32))), .val (.int (0 : Int32)), .val (.ref s_JSON), .unset, .unset]) rfl q) ?_
        refine Wk.st (g' := (mkF m 33 #[.val (.int (0 : Int32)), .val (.int i1), .val (.int (i1 &&& (3 : Int32))), .val (.int (0 : Int32)), .val (.ref s_JSON), .unset, .unset] [(.ref s_JSON)])) (fun X t q => XS.aload X.here C.hx rfl (hb C.hby at_31) rfl rfl q) ?_
        refine Wk.st (g' := (mkF m 34 #[.val (.int (0 : Int32)), .val (.int i1), .val (.int (i1 &&& (3 : Int32))), .val (.int (0 : Int32)), .val (.ref s_JSON), .unset, .unset] [(.int (0 : Int32)), (.ref s_JSON)])) (fun X t q => XS.iloadN X.here C.hx rfl (hb C.hby at_33) rfl q) ?_
        refine Wk.callS C (z := (⟨"com/example/ample_queue/amplequeue/protocol/HeaderEncodingOfPinLaw", "expected", "(I)Lcom/example/ample_queue/amplequeue/protocol/HeaderEncoding;"⟩ : MethodName)) (hw _ (List.mem_of_getElem? (i := 10) rfl)) (hw _ (List.mem_of_getElem? (i := 11) rfl)) (hw _ (List.mem_of_getElem? (i := 12) rfl)) (hw _ (List.mem_of_getElem? (i := 13) rfl)) (by decide) (own_2_1 l Z a0 hw n0 h0 s_JSON s_BINARY EN s_ALL cl AR) (w := 1) (by decide) (by decide) pd_0 rfl (rest := [(.ref s_JSON)]) rfl rfl (Nat.le_of_eq rfl) (by decide) (by decide) at_34 ?_
        rintro _ _ ⟨rfl, rfl⟩
        show Wk _ p l e _ s m _ below meth c n0 _ h0 0 0 (mkF m 37 #[.val (.int (0 : Int32)), .val (.int i1), .val (.int (i1 &&& (3 : Int32))), .val (.int (0 : Int32)), .val (.ref s_JSON), .unset, .unset] [(.ref s_JSON), (.ref s_JSON)])
        refine Wk.st (g' := (mkF m 40 #[.val (.int (0 : Int32)), .val (.int i1), .val (.int (i1 &&& (3 : Int32))), .val (.int (0 : Int32)), .val (.ref s_JSON), .unset, .unset] [])) (fun X t q => Jvm.RoadKit.acmp (g := (mkF m 37 #[.val (.int (0 : Int32)), .val (.int i1), .val (.int (i1 &&& (3 : Int32))), .val (.int (0 : Int32)), .val (.ref s_JSON), .unset, .unset] [(.ref s_JSON), (.ref s_JSON)])) X C.hx rfl rfl rfl (pc0 := 37) (pc' := 40) (same := true) rfl (hb C.hby at_37) rfl (decide_eq_true (congrArg Value.ref rfl)) (by decide) (by decide) q) ?_
        refine Wk.st (g' := (mkF m 41 #[.val (.int (0 : Int32)), .val (.int i1), .val (.int (i1 &&& (3 : Int32))), .val (.int (0 : Int32)), .val (.ref s_JSON), .unset, .unset] [(.int (1 : Int32))])) (fun X t q => XS.iconst X.here C.hx rfl (hb C.hby at_40) q) ?_
        refine Wk.st (g' := (mkF m 45 #[.val (.int (0 : Int32)), .val (.int i1), .val (.int (i1 &&& (3 : Int32))), .val (.int (0 : Int32)), .val (.ref s_JSON), .unset, .unset] [(.int (1 : Int32))])) (fun X t q => XS.goto X.here C.hx rfl (pc0 := 41) (pc' := 45) rfl (hb C.hby at_41) (by decide) (by decide) q) ?_
        refine Wk.st (g' := (mkF m 47 #[.val (.int (0 : Int32)), .val (.int i1), .val (.int (i1 &&& (3 : Int32))), .val (.int (0 : Int32)), .val (.ref s_JSON), .val (.int (1 : Int32)), .unset] [])) (fun X t q => XS.istore X.here C.hx rfl (hb C.hby at_45) rfl (l' := #[.val (.int (0 : Int32)), .val (.int i1), .val (.int (i1 &&& (3 : Int32))), .val (.int (0 : Int32)), .val (.ref s_JSON), .val (.int (1 : Int32)), .unset]) rfl q) ?_
        refine Wk.getS C (hw _ (List.mem_of_getElem? (i := 14) rfl)) (en_S_JSON EN) at_47 ?_
        show Wk _ p l e _ s m _ below meth c n0 _ h0 0 0 (mkF m 50 #[.val (.int (0 : Int32)), .val (.int i1), .val (.int (i1 &&& (3 : Int32))), .val (.int (0 : Int32)), .val (.ref s_JSON), .val (.int (1 : Int32)), .unset] [(.ref s_JSON)])
        refine Wk.callV C (x := (⟨"com/example/ample_queue/amplequeue/protocol/HeaderEncoding", "code", "()I"⟩ : MethodName)) (z := (⟨"com/example/ample_queue/amplequeue/protocol/HeaderEncoding", "code", "()I"⟩ : MethodName)) (K := "com/example/ample_queue/amplequeue/protocol/HeaderEncoding") (hw _ (List.mem_of_getElem? (i := 15) rfl)) (hw _ (List.mem_of_getElem? (i := 16) rfl)) (hw _ (List.mem_of_getElem? (i := 18) rfl)) (hw _ (List.mem_of_getElem? (i := 17) rfl)) (hw _ (List.mem_of_getElem? (i := 2) rfl)) (hw _ (List.mem_of_getElem? (i := 19) rfl)) (by decide) (fun s' hZ' => notFace_of_selects (args := #[]) (mvT hZ' (hw _ (List.mem_of_getElem? (i := 18) rfl)))) (en_E_JSON EN) (own_3_2 l Z a0 hw n0 h0 s_JSON s_BINARY EN s_ALL cl AR) (w := 0) (by decide) (by decide) pd_1 rfl (rest := []) rfl rfl (Nat.le_of_eq rfl) (by decide) (by decide) at_50 ?_
        rintro _ _ ⟨rfl, rfl⟩
        show Wk _ p l e _ s m _ below meth c n0 _ h0 0 0 (mkF m 53 #[.val (.int (0 : Int32)), .val (.int i1), .val (.int (i1 &&& (3 : Int32))), .val (.int (0 : Int32)), .val (.ref s_JSON), .val (.int (1 : Int32)), .unset] [(.int (0 : Int32))])
        refine Wk.callS C (z := (⟨"com/example/ample_queue/amplequeue/protocol/HeaderEncoding", "of", "(I)Lcom/example/ample_queue/amplequeue/protocol/HeaderEncoding;"⟩ : MethodName)) (hw _ (List.mem_of_getElem? (i := 0) rfl)) (hw _ (List.mem_of_getElem? (i := 1) rfl)) (hw _ (List.mem_of_getElem? (i := 2) rfl)) (hw _ (List.mem_of_getElem? (i := 3) rfl)) (by decide) (own_1_0 l Z a0 hw n0 h0 s_JSON s_BINARY EN s_ALL cl AR) (w := 0) (by decide) (by decide) pd_0 rfl (rest := []) rfl rfl (Nat.le_of_eq rfl) (by decide) (by decide) at_53 ?_
        rintro _ _ ⟨rfl, rfl⟩
        show Wk _ p l e _ s m _ below meth c n0 _ h0 0 0 (mkF m 56 #[.val (.int (0 : Int32)), .val (.int i1), .val (.int (i1 &&& (3 : Int32))), .val (.int (0 : Int32)), .val (.ref s_JSON), .val (.int (1 : Int32)), .unset] [(.ref s_JSON)])
        refine Wk.getS C (hw _ (List.mem_of_getElem? (i := 14) rfl)) (en_S_JSON EN) at_56 ?_
        show Wk _ p l e _ s m _ below meth c n0 _ h0 0 0 (mkF m 59 #[.val (.int (0 : Int32)), .val (.int i1), .val (.int (i1 &&& (3 : Int32))), .val (.int (0 : Int32)), .val (.ref s_JSON), .val (.int (1 : Int32)), .unset] [(.ref s_JSON), (.ref s_JSON)])
        refine Wk.st (g' := (mkF m 62 #[.val (.int (0 : Int32)), .val (.int i1), .val (.int (i1 &&& (3 : Int32))), .val (.int (0 : Int32)), .val (.ref s_JSON), .val (.int (1 : Int32)), .unset] [])) (fun X t q => Jvm.RoadKit.acmp (g := (mkF m 59 #[.val (.int (0 : Int32)), .val (.int i1), .val (.int (i1 &&& (3 : Int32))), .val (.int (0 : Int32)), .val (.ref s_JSON), .val (.int (1 : Int32)), .unset] [(.ref s_JSON), (.ref s_JSON)])) X C.hx rfl rfl rfl (pc0 := 59) (pc' := 62) (same := true) rfl (hb C.hby at_59) rfl (decide_eq_true (congrArg Value.ref rfl)) (by decide) (by decide) q) ?_
        refine Wk.getS C (hw _ (List.mem_of_getElem? (i := 20) rfl)) (en_S_BINARY EN) at_62 ?_
        show Wk _ p l e _ s m _ below meth c n0 _ h0 0 0 (mkF m 65 #[.val (.int (0 : Int32)), .val (.int i1), .val (.int (i1 &&& (3 : Int32))), .val (.int (0 : Int32)), .val (.ref s_JSON), .val (.int (1 : Int32)), .unset] [(.ref s_BINARY)])
        refine Wk.callV C (x := (⟨"com/example/ample_queue/amplequeue/protocol/HeaderEncoding", "code", "()I"⟩ : MethodName)) (z := (⟨"com/example/ample_queue/amplequeue/protocol/HeaderEncoding", "code", "()I"⟩ : MethodName)) (K := "com/example/ample_queue/amplequeue/protocol/HeaderEncoding") (hw _ (List.mem_of_getElem? (i := 15) rfl)) (hw _ (List.mem_of_getElem? (i := 16) rfl)) (hw _ (List.mem_of_getElem? (i := 18) rfl)) (hw _ (List.mem_of_getElem? (i := 17) rfl)) (hw _ (List.mem_of_getElem? (i := 2) rfl)) (hw _ (List.mem_of_getElem? (i := 19) rfl)) (by decide) (fun s' hZ' => notFace_of_selects (args := #[]) (mvT hZ' (hw _ (List.mem_of_getElem? (i := 18) rfl)))) (en_E_BINARY EN) (own_3_3 l Z a0 hw n0 h0 s_JSON s_BINARY EN s_ALL cl AR) (w := 0) (by decide) (by decide) pd_1 rfl (rest := []) rfl rfl (Nat.le_of_eq rfl) (by decide) (by decide) at_65 ?_
        rintro _ _ ⟨rfl, rfl⟩
        show Wk _ p l e _ s m _ below meth c n0 _ h0 0 0 (mkF m 68 #[.val (.int (0 : Int32)), .val (.int i1), .val (.int (i1 &&& (3 : Int32))), .val (.int (0 : Int32)), .val (.ref s_JSON), .val (.int (1 : Int32)), .unset] [(.int (1 : Int32))])
        refine Wk.callS C (z := (⟨"com/example/ample_queue/amplequeue/protocol/HeaderEncoding", "of", "(I)Lcom/example/ample_queue/amplequeue/protocol/HeaderEncoding;"⟩ : MethodName)) (hw _ (List.mem_of_getElem? (i := 0) rfl)) (hw _ (List.mem_of_getElem? (i := 1) rfl)) (hw _ (List.mem_of_getElem? (i := 2) rfl)) (hw _ (List.mem_of_getElem? (i := 3) rfl)) (by decide) (own_1_4 l Z a0 hw n0 h0 s_JSON s_BINARY EN s_ALL cl AR) (w := 0) (by decide) (by decide) pd_0 rfl (rest := []) rfl rfl (Nat.le_of_eq rfl) (by decide) (by decide) at_68 ?_
        rintro _ _ ⟨rfl, rfl⟩
        show Wk _ p l e _ s m _ below meth c n0 _ h0 0 0 (mkF m 71 #[.val (.int (0 : Int32)), .val (.int i1), .val (.int (i1 &&& (3 : Int32))), .val (.int (0 : Int32)), .val (.ref s_JSON), .val (.int (1 : Int32)), .unset] [(.ref s_BINARY)])
        refine Wk.getS C (hw _ (List.mem_of_getElem? (i := 20) rfl)) (en_S_BINARY EN) at_71 ?_
        show Wk _ p l e _ s m _ below meth c n0 _ h0 0 0 (mkF m 74 #[.val (.int (0 : Int32)), .val (.int i1), .val (.int (i1 &&& (3 : Int32))), .val (.int (0 : Int32)), .val (.ref s_JSON), .val (.int (1 : Int32)), .unset] [(.ref s_BINARY), (.ref s_BINARY)])
        refine Wk.st (g' := (mkF m 77 #[.val (.int (0 : Int32)), .val (.int i1), .val (.int (i1 &&& (3 : Int32))), .val (.int (0 : Int32)), .val (.ref s_JSON), .val (.int (1 : Int32)), .unset] [])) (fun X t q => Jvm.RoadKit.acmp (g := (mkF m 74 #[.val (.int (0 : Int32)), .val (.int i1), .val (.int (i1 &&& (3 : Int32))), .val (.int (0 : Int32)), .val (.ref s_JSON), .val (.int (1 : Int32)), .unset] [(.ref s_BINARY), (.ref s_BINARY)])) X C.hx rfl rfl rfl (pc0 := 74) (pc' := 77) (same := true) rfl (hb C.hby at_74) rfl (decide_eq_true (congrArg Value.ref rfl)) (by decide) (by decide) q) ?_
        refine Wk.st (g' := (mkF m 78 #[.val (.int (0 : Int32)), .val (.int i1), .val (.int (i1 &&& (3 : Int32))), .val (.int (0 : Int32)), .val (.ref s_JSON), .val (.int (1 : Int32)), .unset] [(.int (1 : Int32))])) (fun X t q => XS.iconst X.here C.hx rfl (hb C.hby at_77) q) ?_
        refine Wk.st (g' := (mkF m 82 #[.val (.int (0 : Int32)), .val (.int i1), .val (.int (i1 &&& (3 : Int32))), .val (.int (0 : Int32)), .val (.ref s_JSON), .val (.int (1 : Int32)), .unset] [(.int (1 : Int32))])) (fun X t q => XS.goto X.here C.hx rfl (pc0 := 78) (pc' := 82) rfl (hb C.hby at_78) (by decide) (by decide) q) ?_
        refine Wk.st (g' := (mkF m 84 #[.val (.int (0 : Int32)), .val (.int i1), .val (.int (i1 &&& (3 : Int32))), .val (.int (0 : Int32)), .val (.ref s_JSON), .val (.int (1 : Int32)), .val (.int (1 : Int32))] [])) (fun X t q => XS.istore X.here C.hx rfl (hb C.hby at_82) rfl (l' := #[.val (.int (0 : Int32)), .val (.int i1), .val (.int (i1 &&& (3 : Int32))), .val (.int (0 : Int32)), .val (.ref s_JSON), .val (.int (1 : Int32)), .val (.int (1 : Int32))]) rfl q) ?_
        refine Wk.st (g' := (mkF m 86 #[.val (.int (0 : Int32)), .val (.int i1), .val (.int (i1 &&& (3 : Int32))), .val (.int (0 : Int32)), .val (.ref s_JSON), .val (.int (1 : Int32)), .val (.int (1 : Int32))] [(.int (1 : Int32))])) (fun X t q => XS.iload X.here C.hx rfl (hb C.hby at_84) rfl q) ?_
        refine Wk.st (g' := (mkF m 89 #[.val (.int (0 : Int32)), .val (.int i1), .val (.int (i1 &&& (3 : Int32))), .val (.int (0 : Int32)), .val (.ref s_JSON), .val (.int (1 : Int32)), .val (.int (1 : Int32))] [])) (fun X t q => XS.ifNo X.here C.hx rfl (hb C.hby at_86) rfl (XT.i0_eq_f (by decide)) q) ?_
        refine Wk.st (g' := (mkF m 91 #[.val (.int (0 : Int32)), .val (.int i1), .val (.int (i1 &&& (3 : Int32))), .val (.int (0 : Int32)), .val (.ref s_JSON), .val (.int (1 : Int32)), .val (.int (1 : Int32))] [(.int (1 : Int32))])) (fun X t q => XS.iload X.here C.hx rfl (hb C.hby at_89) rfl q) ?_
        refine Wk.st (g' := (mkF m 94 #[.val (.int (0 : Int32)), .val (.int i1), .val (.int (i1 &&& (3 : Int32))), .val (.int (0 : Int32)), .val (.ref s_JSON), .val (.int (1 : Int32)), .val (.int (1 : Int32))] [])) (fun X t q => XS.ifNo X.here C.hx rfl (hb C.hby at_91) rfl (XT.i0_eq_f (by decide)) q) ?_
        refine Wk.st (g' := (mkF m 95 #[.val (.int (0 : Int32)), .val (.int i1), .val (.int (i1 &&& (3 : Int32))), .val (.int (0 : Int32)), .val (.ref s_JSON), .val (.int (1 : Int32)), .val (.int (1 : Int32))] [(.int (1 : Int32))])) (fun X t q => XS.iconst X.here C.hx rfl (hb C.hby at_94) q) ?_
        refine Wk.st (g' := (mkF m 99 #[.val (.int (0 : Int32)), .val (.int i1), .val (.int (i1 &&& (3 : Int32))), .val (.int (0 : Int32)), .val (.ref s_JSON), .val (.int (1 : Int32)), .val (.int (1 : Int32))] [(.int (1 : Int32))])) (fun X t q => XS.goto X.here C.hx rfl (pc0 := 95) (pc' := 99) rfl (hb C.hby at_95) (by decide) (by decide) q) ?_
        exact Wk.retV C (t := .boolean) rfl rfl (Or.inl ⟨rfl, by simp, _, rfl⟩) at_99 (by decide) (by decide) ⟨rfl, trivial⟩
      · skip
        by_cases k1 : i0 = 1
        · subst k1
          show Wk _ p l e _ s m _ below meth c n0 _ h0 0 0 (mkF m 25 #[.val (.int (1 : Int32)), .val (.int i1), .val (.int (i1 &&& (3 : Int32))), .val (.int (1 : Int32)), .unset, .unset, .unset] [])
          refine Wk.st (g' := (mkF m 26 #[.val (.int (1 : Int32)), .val (.int i1), .val (.int (i1 &&& (3 : Int32))), .val (.int (1 : Int32)), .unset, .unset, .unset] [(.int (1 : Int32))])) (fun X t q => XS.iloadN X.here C.hx rfl (hb C.hby at_25) rfl q) ?_
          refine Wk.callS C (z := (⟨"com/example/ample_queue/amplequeue/protocol/HeaderEncoding", "of", "(I)Lcom/example/ample_queue/amplequeue/protocol/HeaderEncoding;"⟩ : MethodName)) (hw _ (List.mem_of_getElem? (i := 0) rfl)) (hw _ (List.mem_of_getElem? (i := 1) rfl)) (hw _ (List.mem_of_getElem? (i := 2) rfl)) (hw _ (List.mem_of_getElem? (i := 3) rfl)) (by decide) (own_1_4 l Z a0 hw n0 h0 s_JSON s_BINARY EN s_ALL cl AR) (w := 0) (by decide) (by decide) pd_0 rfl (rest := []) rfl rfl (Nat.le_of_eq rfl) (by decide) (by decide) at_26 ?_
          rintro _ _ ⟨rfl, rfl⟩
          show Wk _ p l e _ s m _ below meth c n0 _ h0 0 0 (mkF m 29 #[.val (.int (1 : Int32)), .val (.int i1), .val (.int (i1 &&& (3 : Int32))), .val (.int (1 : Int32)), .unset, .unset, .unset] [(.ref s_BINARY)])
          refine Wk.st (g' := (mkF m 31 #[.val (.int (1 : Int32)), .val (.int i1), .val (.int (i1 &&& (3 : Int32))), .val (.int (1 : Int32)), .val (.ref s_BINARY), .unset, .unset] [])) (fun X t q => XS.astore X.here C.hx rfl (hb C.hby at_29) rfl rfl (l' := #[.val (.int (1 : Int32)), .val (.int i1), .val (.int (i1 &&& (3 : Int32))), .val (.int (1 : Int32)), .val (.ref s_BINARY), .unset, .unset]) rfl q) ?_
          refine Wk.st (g' := (mkF m 33 #[.val (.int (1 : Int32)), .val (.int i1), .val (.int (i1 &&& (3 : Int32))), .val (.int (1 : Int32)), .val (.ref s_BINARY), .unset, .unset] [(.ref s_BINARY)])) (fun X t q => XS.aload X.here C.hx rfl (hb C.hby at_31) rfl rfl q) ?_
          refine Wk.st (g' := (mkF m 34 #[.val (.int (1 : Int32)), .val (.int i1), .val (.int (i1 &&& (3 : Int32))), .val (.int (1 : Int32)), .val (.ref s_BINARY), .unset, .unset] [(.int (1 : Int32)), (.ref s_BINARY)])) (fun X t q => XS.iloadN X.here C.hx rfl (hb C.hby at_33) rfl q) ?_
          refine Wk.callS C (z := (⟨"com/example/ample_queue/amplequeue/protocol/HeaderEncodingOfPinLaw", "expected", "(I)Lcom/example/ample_queue/amplequeue/protocol/HeaderEncoding;"⟩ : MethodName)) (hw _ (List.mem_of_getElem? (i := 10) rfl)) (hw _ (List.mem_of_getElem? (i := 11) rfl)) (hw _ (List.mem_of_getElem? (i := 12) rfl)) (hw _ (List.mem_of_getElem? (i := 13) rfl)) (by decide) (own_2_5 l Z a0 hw n0 h0 s_JSON s_BINARY EN s_ALL cl AR) (w := 1) (by decide) (by decide) pd_0 rfl (rest := [(.ref s_BINARY)]) rfl rfl (Nat.le_of_eq rfl) (by decide) (by decide) at_34 ?_
          rintro _ _ ⟨rfl, rfl⟩
          show Wk _ p l e _ s m _ below meth c n0 _ h0 0 0 (mkF m 37 #[.val (.int (1 : Int32)), .val (.int i1), .val (.int (i1 &&& (3 : Int32))), .val (.int (1 : Int32)), .val (.ref s_BINARY), .unset, .unset] [(.ref s_BINARY), (.ref s_BINARY)])
          refine Wk.st (g' := (mkF m 40 #[.val (.int (1 : Int32)), .val (.int i1), .val (.int (i1 &&& (3 : Int32))), .val (.int (1 : Int32)), .val (.ref s_BINARY), .unset, .unset] [])) (fun X t q => Jvm.RoadKit.acmp (g := (mkF m 37 #[.val (.int (1 : Int32)), .val (.int i1), .val (.int (i1 &&& (3 : Int32))), .val (.int (1 : Int32)), .val (.ref s_BINARY), .unset, .unset] [(.ref s_BINARY), (.ref s_BINARY)])) X C.hx rfl rfl rfl (pc0 := 37) (pc' := 40) (same := true) rfl (hb C.hby at_37) rfl (decide_eq_true (congrArg Value.ref rfl)) (by decide) (by decide) q) ?_
          refine Wk.st (g' := (mkF m 41 #[.val (.int (1 : Int32)), .val (.int i1), .val (.int (i1 &&& (3 : Int32))), .val (.int (1 : Int32)), .val (.ref s_BINARY), .unset, .unset] [(.int (1 : Int32))])) (fun X t q => XS.iconst X.here C.hx rfl (hb C.hby at_40) q) ?_
          refine Wk.st (g' := (mkF m 45 #[.val (.int (1 : Int32)), .val (.int i1), .val (.int (i1 &&& (3 : Int32))), .val (.int (1 : Int32)), .val (.ref s_BINARY), .unset, .unset] [(.int (1 : Int32))])) (fun X t q => XS.goto X.here C.hx rfl (pc0 := 41) (pc' := 45) rfl (hb C.hby at_41) (by decide) (by decide) q) ?_
          refine Wk.st (g' := (mkF m 47 #[.val (.int (1 : Int32)), .val (.int i1), .val (.int (i1 &&& (3 : Int32))), .val (.int (1 : Int32)), .val (.ref s_BINARY), .val (.int (1 : Int32)), .unset] [])) (fun X t q => XS.istore X.here C.hx rfl (hb C.hby at_45) rfl (l' := #[.val (.int (1 : Int32)), .val (.int i1), .val (.int (i1 &&& (3 : Int32))), .val (.int (1 : Int32)), .val (.ref s_BINARY), .val (.int (1 : Int32)), .unset]) rfl q) ?_
          refine Wk.getS C (hw _ (List.mem_of_getElem? (i := 14) rfl)) (en_S_JSON EN) at_47 ?_
          show Wk _ p l e _ s m _ below meth c n0 _ h0 0 0 (mkF m 50 #[.val (.int (1 : Int32)), .val (.int i1), .val (.int (i1 &&& (3 : Int32))), .val (.int (1 : Int32)), .val (.ref s_BINARY), .val (.int (1 : Int32)), .unset] [(.ref s_JSON)])
          refine Wk.callV C (x := (⟨"com/example/ample_queue/amplequeue/protocol/HeaderEncoding", "code", "()I"⟩ : MethodName)) (z := (⟨"com/example/ample_queue/amplequeue/protocol/HeaderEncoding", "code", "()I"⟩ : MethodName)) (K := "com/example/ample_queue/amplequeue/protocol/HeaderEncoding") (hw _ (List.mem_of_getElem? (i := 15) rfl)) (hw _ (List.mem_of_getElem? (i := 16) rfl)) (hw _ (List.mem_of_getElem? (i := 18) rfl)) (hw _ (List.mem_of_getElem? (i := 17) rfl)) (hw _ (List.mem_of_getElem? (i := 2) rfl)) (hw _ (List.mem_of_getElem? (i := 19) rfl)) (by decide) (fun s' hZ' => notFace_of_selects (args := #[]) (mvT hZ' (hw _ (List.mem_of_getElem? (i := 18) rfl)))) (en_E_JSON EN) (own_3_2 l Z a0 hw n0 h0 s_JSON s_BINARY EN s_ALL cl AR) (w := 0) (by decide) (by decide) pd_1 rfl (rest := []) rfl rfl (Nat.le_of_eq rfl) (by decide) (by decide) at_50 ?_
          rintro _ _ ⟨rfl, rfl⟩
          show Wk _ p l e _ s m _ below meth c n0 _ h0 0 0 (mkF m 53 #[.val (.int (1 : Int32)), .val (.int i1), .val (.int (i1 &&& (3 : Int32))), .val (.int (1 : Int32)), .val (.ref s_BINARY), .val (.int (1 : Int32)), .unset] [(.int (0 : Int32))])
          refine Wk.callS C (z := (⟨"com/example/ample_queue/amplequeue/protocol/HeaderEncoding", "of", "(I)Lcom/example/ample_queue/amplequeue/protocol/HeaderEncoding;"⟩ : MethodName)) (hw _ (List.mem_of_getElem? (i := 0) rfl)) (hw _ (List.mem_of_getElem? (i := 1) rfl)) (hw _ (List.mem_of_getElem? (i := 2) rfl)) (hw _ (List.mem_of_getElem? (i := 3) rfl)) (by decide) (own_1_0 l Z a0 hw n0 h0 s_JSON s_BINARY EN s_ALL cl AR) (w := 0) (by decide) (by decide) pd_0 rfl (rest := []) rfl rfl (Nat.le_of_eq rfl) (by decide) (by decide) at_53 ?_
          rintro _ _ ⟨rfl, rfl⟩
          show Wk _ p l e _ s m _ below meth c n0 _ h0 0 0 (mkF m 56 #[.val (.int (1 : Int32)), .val (.int i1), .val (.int (i1 &&& (3 : Int32))), .val (.int (1 : Int32)), .val (.ref s_BINARY), .val (.int (1 : Int32)), .unset] [(.ref s_JSON)])
          refine Wk.getS C (hw _ (List.mem_of_getElem? (i := 14) rfl)) (en_S_JSON EN) at_56 ?_
          show Wk _ p l e _ s m _ below meth c n0 _ h0 0 0 (mkF m 59 #[.val (.int (1 : Int32)), .val (.int i1), .val (.int (i1 &&& (3 : Int32))), .val (.int (1 : Int32)), .val (.ref s_BINARY), .val (.int (1 : Int32)), .unset] [(.ref s_JSON), (.ref s_JSON)])
          refine Wk.st (g' := (mkF m 62 #[.val (.int (1 : Int32)), .val (.int i1), .val (.int (i1 &&& (3 : Int32))), .val (.int (1 : Int32)), .val (.ref s_BINARY), .val (.int (1 : Int32)), .unset] [])) (fun X t q => Jvm.RoadKit.acmp (g := (mkF m 59 #[.val (.int (1 : Int32)), .val (.int i1), .val (.int (i1 &&& (3 : Int32))), .val (.int (1 : Int32)), .val (.ref s_BINARY), .val (.int (1 : Int32)), .unset] [(.ref s_JSON), (.ref s_JSON)])) X C.hx rfl rfl rfl (pc0 := 59) (pc' := 62) (same := true) rfl (hb C.hby at_59) rfl (decide_eq_true (congrArg Value.ref rfl)) (by decide) (by decide) q) ?_
          refine Wk.getS C (hw _ (List.mem_of_getElem? (i := 20) rfl)) (en_S_BINARY EN) at_62 ?_
          show Wk _ p l e _ s m _ below meth c n0 _ h0 0 0 (mkF m 65 #[.val (.int (1 : Int32)), .val (.int i1), .val (.int (i1 &&& (3 : Int32))), .val (.int (1 : Int32)), .val (.ref s_BINARY), .val (.int (1 : Int32)), .unset] [(.ref s_BINARY)])
          refine Wk.callV C (x := (⟨"com/example/ample_queue/amplequeue/protocol/HeaderEncoding", "code", "()I"⟩ : MethodName)) (z := (⟨"com/example/ample_queue/amplequeue/protocol/HeaderEncoding", "code", "()I"⟩ : MethodName)) (K := "com/example/ample_queue/amplequeue/protocol/HeaderEncoding") (hw _ (List.mem_of_getElem? (i := 15) rfl)) (hw _ (List.mem_of_getElem? (i := 16) rfl)) (hw _ (List.mem_of_getElem? (i := 18) rfl)) (hw _ (List.mem_of_getElem? (i := 17) rfl)) (hw _ (List.mem_of_getElem? (i := 2) rfl)) (hw _ (List.mem_of_getElem? (i := 19) rfl)) (by decide) (fun s' hZ' => notFace_of_selects (args := #[]) (mvT hZ' (hw _ (List.mem_of_getElem? (i := 18) rfl)))) (en_E_BINARY EN) (own_3_3 l Z a0 hw n0 h0 s_JSON s_BINARY EN s_ALL cl AR) (w := 0) (by decide) (by decide) pd_1 rfl (rest := []) rfl rfl (Nat.le_of_eq rfl) (by decide) (by decide) at_65 ?_
          rintro _ _ ⟨rfl, rfl⟩
          show Wk _ p l e _ s m _ below meth c n0 _ h0 0 0 (mkF m 68 #[.val (.int (1 : Int32)), .val (.int i1), .val (.int (i1 &&& (3 : Int32))), .val (.int (1 : Int32)), .val (.ref s_BINARY), .val (.int (1 : Int32)), .unset] [(.int (1 : Int32))])
          refine Wk.callS C (z := (⟨"com/example/ample_queue/amplequeue/protocol/HeaderEncoding", "of", "(I)Lcom/example/ample_queue/amplequeue/protocol/HeaderEncoding;"⟩ : MethodName)) (hw _ (List.mem_of_getElem? (i := 0) rfl)) (hw _ (List.mem_of_getElem? (i := 1) rfl)) (hw _ (List.mem_of_getElem? (i := 2) rfl)) (hw _ (List.mem_of_getElem? (i := 3) rfl)) (by decide) (own_1_4 l Z a0 hw n0 h0 s_JSON s_BINARY EN s_ALL cl AR) (w := 0) (by decide) (by decide) pd_0 rfl (rest := []) rfl rfl (Nat.le_of_eq rfl) (by decide) (by decide) at_68 ?_
          rintro _ _ ⟨rfl, rfl⟩
          show Wk _ p l e _ s m _ below meth c n0 _ h0 0 0 (mkF m 71 #[.val (.int (1 : Int32)), .val (.int i1), .val (.int (i1 &&& (3 : Int32))), .val (.int (1 : Int32)), .val (.ref s_BINARY), .val (.int (1 : Int32)), .unset] [(.ref s_BINARY)])
          refine Wk.getS C (hw _ (List.mem_of_getElem? (i := 20) rfl)) (en_S_BINARY EN) at_71 ?_
          show Wk _ p l e _ s m _ below meth c n0 _ h0 0 0 (mkF m 74 #[.val (.int (1 : Int32)), .val (.int i1), .val (.int (i1 &&& (3 : Int32))), .val (.int (1 : Int32)), .val (.ref s_BINARY), .val (.int (1 : Int32)), .unset] [(.ref s_BINARY), (.ref s_BINARY)])
          refine Wk.st (g' := (mkF m 77 #[.val (.int (1 : Int32)), .val (.int i1), .val (.int (i1 &&& (3 : Int32))), .val (.int (1 : Int32)), .val (.ref s_BINARY), .val (.int (1 : Int32)), .unset] [])) (fun X t q => Jvm.RoadKit.acmp (g := (mkF m 74 #[.val (.int (1 : Int32)), .val (.int i1), .val (.int (i1 &&& (3 : Int32))), .val (.int (1 : Int32)), .val (.ref s_BINARY), .val (.int (1 : Int32)), .unset] [(.ref s_BINARY), (.ref s_BINARY)])) X C.hx rfl rfl rfl (pc0 := 74) (pc' := 77) (same := true) rfl (hb C.hby at_74) rfl (decide_eq_true (congrArg Value.ref rfl)) (by decide) (by decide) q) ?_
          refine Wk.st (g' := (mkF m 78 #[.val (.int (1 : Int32)), .val (.int i1), .val (.int (i1 &&& (3 : Int32))), .val (.int (1 : Int32)), .val (.ref s_BINARY), .val (.int (1 : Int32)), .unset] [(.int (1 : Int32))])) (fun X t q => XS.iconst X.here C.hx rfl (hb C.hby at_77) q) ?_
          refine Wk.st (g' := (mkF m 82 #[.val (.int (1 : Int32)), .val (.int i1), .val (.int (i1 &&& (3 : Int32))), .val (.int (1 : Int32)), .val (.ref s_BINARY), .val (.int (1 : Int32)), .unset] [(.int (1 : Int32))])) (fun X t q => XS.goto X.here C.hx rfl (pc0 := 78) (pc' := 82) rfl (hb C.hby at_78) (by decide) (by decide) q) ?_
          refine Wk.st (g' := (mkF m 84 #[.val (.int (1 : Int32)), .val (.int i1), .val (.int (i1 &&& (3 : Int32))), .val (.int (1 : Int32)), .val (.ref s_BINARY), .val (.int (1 : Int32)), .val (.int (1 : Int32))] [])) (fun X t q => XS.istore X.here C.hx rfl (hb C.hby at_82) rfl (l' := #[.val (.int (1 : Int32)), .val (.int i1), .val (.int (i1 &&& (3 : Int32))), .val (.int (1 : Int32)), .val (.ref s_BINARY), .val (.int (1 : Int32)), .val (.int (1 : Int32))]) rfl q) ?_
          refine Wk.st (g' := (mkF m 86 #[.val (.int (1 : Int32)), .val (.int i1), .val (.int (i1 &&& (3 : Int32))), .val (.int (1 : Int32)), .val (.ref s_BINARY), .val (.int (1 : Int32)), .val (.int (1 : Int32))] [(.int (1 : Int32))])) (fun X t q => XS.iload X.here C.hx rfl (hb C.hby at_84) rfl q) ?_
          refine Wk.st (g' := (mkF m 89 #[.val (.int (1 : Int32)), .val (.int i1), .val (.int (i1 &&& (3 : Int32))), .val (.int (1 : Int32)), .val (.ref s_BINARY), .val (.int (1 : Int32)), .val (.int (1 : Int32))] [])) (fun X t q => XS.ifNo X.here C.hx rfl (hb C.hby at_86) rfl (XT.i0_eq_f (by decide)) q) ?_
          refine Wk.st (g' := (mkF m 91 #[.val (.int (1 : Int32)), .val (.int i1), .val (.int (i1 &&& (3 : Int32))), .val (.int (1 : Int32)), .val (.ref s_BINARY), .val (.int (1 : Int32)), .val (.int (1 : Int32))] [(.int (1 : Int32))])) (fun X t q => XS.iload X.here C.hx rfl (hb C.hby at_89) rfl q) ?_
          refine Wk.st (g' := (mkF m 94 #[.val (.int (1 : Int32)), .val (.int i1), .val (.int (i1 &&& (3 : Int32))), .val (.int (1 : Int32)), .val (.ref s_BINARY), .val (.int (1 : Int32)), .val (.int (1 : Int32))] [])) (fun X t q => XS.ifNo X.here C.hx rfl (hb C.hby at_91) rfl (XT.i0_eq_f (by decide)) q) ?_
          refine Wk.st (g' := (mkF m 95 #[.val (.int (1 : Int32)), .val (.int i1), .val (.int (i1 &&& (3 : Int32))), .val (.int (1 : Int32)), .val (.ref s_BINARY), .val (.int (1 : Int32)), .val (.int (1 : Int32))] [(.int (1 : Int32))])) (fun X t q => XS.iconst X.here C.hx rfl (hb C.hby at_94) q) ?_
          refine Wk.st (g' := (mkF m 99 #[.val (.int (1 : Int32)), .val (.int i1), .val (.int (i1 &&& (3 : Int32))), .val (.int (1 : Int32)), .val (.ref s_BINARY), .val (.int (1 : Int32)), .val (.int (1 : Int32))] [(.int (1 : Int32))])) (fun X t q => XS.goto X.here C.hx rfl (pc0 := 95) (pc' := 99) rfl (hb C.hby at_95) (by decide) (by decide) q) ?_
          exact Wk.retV C (t := .boolean) rfl rfl (Or.inl ⟨rfl, by simp, _, rfl⟩) at_99 (by decide) (by decide) ⟨rfl, trivial⟩
        · skip
          refine Wk.st (g' := (mkF m 26 #[.val (.int i0), .val (.int i1), .val (.int (i1 &&& (3 : Int32))), .val (.int i0), .unset, .unset, .unset] [(.int i0)])) (fun X t q => XS.iloadN X.here C.hx rfl (hb C.hby at_25) rfl q) ?_
          refine Wk.callS C (z := (⟨"com/example/ample_queue/amplequeue/protocol/HeaderEncoding", "of", "(I)Lcom/example/ample_queue/amplequeue/protocol/HeaderEncoding;"⟩ : MethodName)) (hw _ (List.mem_of_getElem? (i := 0) rfl)) (hw _ (List.mem_of_getElem? (i := 1) rfl)) (hw _ (List.mem_of_getElem? (i := 2) rfl)) (hw _ (List.mem_of_getElem? (i := 3) rfl)) (by decide) (own_1_6 l Z a0 hw n0 h0 s_JSON s_BINARY EN s_ALL cl AR i0 k0 k1) (w := 0) (by decide) (by decide) pd_0 rfl (rest := []) rfl rfl (Nat.le_of_eq rfl) (by decide) (by decide) at_26 ?_
          rintro _ _ ⟨rfl, rfl⟩
          show Wk _ p l e _ s m _ below meth c n0 _ h0 0 0 (mkF m 29 #[.val (.int i0), .val (.int i1), .val (.int (i1 &&& (3 : Int32))), .val (.int i0), .unset, .unset, .unset] [.null])
          refine Wk.st (g' := (mkF m 31 #[.val (.int i0), .val (.int i1), .val (.int (i1 &&& (3 : Int32))), .val (.int i0), .val .null, .unset, .unset] [])) (fun X t q => XS.astore X.here C.hx rfl (hb C.hby at_29) rfl rfl (l' := #[.val (.int i0), .val (.int i1), .val (.int (i1 &&& (3 : Int32))), .val (.int i0), .val .null, .unset, .unset]) rfl q) ?_
          refine Wk.st (g' := (mkF m 33 #[.val (.int i0), .val (.int i1), .val (.int (i1 &&& (3 : Int32))), .val (.int i0), .val .null, .unset, .unset] [.null])) (fun X t q => XS.aload X.here C.hx rfl (hb C.hby at_31) rfl rfl q) ?_
          refine Wk.st (g' := (mkF m 34 #[.val (.int i0), .val (.int i1), .val (.int (i1 &&& (3 : Int32))), .val (.int i0), .val .null, .unset, .unset] [(.int i0), .null])) (fun X t q => XS.iloadN X.here C.hx rfl (hb C.hby at_33) rfl q) ?_
          refine Wk.callS C (z := (⟨"com/example/ample_queue/amplequeue/protocol/HeaderEncodingOfPinLaw", "expected", "(I)Lcom/example/ample_queue/amplequeue/protocol/HeaderEncoding;"⟩ : MethodName)) (hw _ (List.mem_of_getElem? (i := 10) rfl)) (hw _ (List.mem_of_getElem? (i := 11) rfl)) (hw _ (List.mem_of_getElem? (i := 12) rfl)) (hw _ (List.mem_of_getElem? (i := 13) rfl)) (by decide) (own_2_7 l Z a0 hw n0 h0 s_JSON s_BINARY EN s_ALL cl AR i0 k0 k1) (w := 1) (by decide) (by decide) pd_0 rfl (rest := [.null]) rfl rfl (Nat.le_of_eq rfl) (by decide) (by decide) at_34 ?_
          rintro _ _ ⟨rfl, rfl⟩
          show Wk _ p l e _ s m _ below meth c n0 _ h0 0 0 (mkF m 37 #[.val (.int i0), .val (.int i1), .val (.int (i1 &&& (3 : Int32))), .val (.int i0), .val .null, .unset, .unset] [.null, .null])
          refine Wk.st (g' := (mkF m 40 #[.val (.int i0), .val (.int i1), .val (.int (i1 &&& (3 : Int32))), .val (.int i0), .val .null, .unset, .unset] [])) (fun X t q => Jvm.RoadKit.acmp (g := (mkF m 37 #[.val (.int i0), .val (.int i1), .val (.int (i1 &&& (3 : Int32))), .val (.int i0), .val .null, .unset, .unset] [.null, .null])) X C.hx rfl rfl rfl (pc0 := 37) (pc' := 40) (same := true) rfl (hb C.hby at_37) rfl (by decide) (by decide) (by decide) q) ?_
          refine Wk.st (g' := (mkF m 41 #[.val (.int i0), .val (.int i1), .val (.int (i1 &&& (3 : Int32))), .val (.int i0), .val .null, .unset, .unset] [(.int (1 : Int32))])) (fun X t q => XS.iconst X.here C.hx rfl (hb C.hby at_40) q) ?_
          refine Wk.st (g' := (mkF m 45 #[.val (.int i0), .val (.int i1), .val (.int (i1 &&& (3 : Int32))), .val (.int i0), .val .null, .unset, .unset] [(.int (1 : Int32))])) (fun X t q => XS.goto X.here C.hx rfl (pc0 := 41) (pc' := 45) rfl (hb C.hby at_41) (by decide) (by decide) q) ?_
          refine Wk.st (g' := (mkF m 47 #[.val (.int i0), .val (.int i1), .val (.int (i1 &&& (3 : Int32))), .val (.int i0), .val .null, .val (.int (1 : Int32)), .unset] [])) (fun X t q => XS.istore X.here C.hx rfl (hb C.hby at_45) rfl (l' := #[.val (.int i0), .val (.int i1), .val (.int (i1 &&& (3 : Int32))), .val (.int i0), .val .null, .val (.int (1 : Int32)), .unset]) rfl q) ?_
          refine Wk.getS C (hw _ (List.mem_of_getElem? (i := 14) rfl)) (en_S_JSON EN) at_47 ?_
          show Wk _ p l e _ s m _ below meth c n0 _ h0 0 0 (mkF m 50 #[.val (.int i0), .val (.int i1), .val (.int (i1 &&& (3 : Int32))), .val (.int i0), .val .null, .val (.int (1 : Int32)), .unset] [(.ref s_JSON)])
          refine Wk.callV C (x := (⟨"com/example/ample_queue/amplequeue/protocol/HeaderEncoding", "code", "()I"⟩ : MethodName)) (z := (⟨"com/example/ample_queue/amplequeue/protocol/HeaderEncoding", "code", "()I"⟩ : MethodName)) (K := "com/example/ample_queue/amplequeue/protocol/HeaderEncoding") (hw _ (List.mem_of_getElem? (i := 15) rfl)) (hw _ (List.mem_of_getElem? (i := 16) rfl)) (hw _ (List.mem_of_getElem? (i := 18) rfl)) (hw _ (List.mem_of_getElem? (i := 17) rfl)) (hw _ (List.mem_of_getElem? (i := 2) rfl)) (hw _ (List.mem_of_getElem? (i := 19) rfl)) (by decide) (fun s' hZ' => notFace_of_selects (args := #[]) (mvT hZ' (hw _ (List.mem_of_getElem? (i := 18) rfl)))) (en_E_JSON EN) (own_3_2 l Z a0 hw n0 h0 s_JSON s_BINARY EN s_ALL cl AR) (w := 0) (by decide) (by decide) pd_1 rfl (rest := []) rfl rfl (Nat.le_of_eq rfl) (by decide) (by decide) at_50 ?_
          rintro _ _ ⟨rfl, rfl⟩
          show Wk _ p l e _ s m _ below meth c n0 _ h0 0 0 (mkF m 53 #[.val (.int i0), .val (.int i1), .val (.int (i1 &&& (3 : Int32))), .val (.int i0), .val .null, .val (.int (1 : Int32)), .unset] [(.int (0 : Int32))])
          refine Wk.callS C (z := (⟨"com/example/ample_queue/amplequeue/protocol/HeaderEncoding", "of", "(I)Lcom/example/ample_queue/amplequeue/protocol/HeaderEncoding;"⟩ : MethodName)) (hw _ (List.mem_of_getElem? (i := 0) rfl)) (hw _ (List.mem_of_getElem? (i := 1) rfl)) (hw _ (List.mem_of_getElem? (i := 2) rfl)) (hw _ (List.mem_of_getElem? (i := 3) rfl)) (by decide) (own_1_0 l Z a0 hw n0 h0 s_JSON s_BINARY EN s_ALL cl AR) (w := 0) (by decide) (by decide) pd_0 rfl (rest := []) rfl rfl (Nat.le_of_eq rfl) (by decide) (by decide) at_53 ?_
          rintro _ _ ⟨rfl, rfl⟩
          show Wk _ p l e _ s m _ below meth c n0 _ h0 0 0 (mkF m 56 #[.val (.int i0), .val (.int i1), .val (.int (i1 &&& (3 : Int32))), .val (.int i0), .val .null, .val (.int (1 : Int32)), .unset] [(.ref s_JSON)])
          refine Wk.getS C (hw _ (List.mem_of_getElem? (i := 14) rfl)) (en_S_JSON EN) at_56 ?_
          show Wk _ p l e _ s m _ below meth c n0 _ h0 0 0 (mkF m 59 #[.val (.int i0), .val (.int i1), .val (.int (i1 &&& (3 : Int32))), .val (.int i0), .val .null, .val (.int (1 : Int32)), .unset] [(.ref s_JSON), (.ref s_JSON)])
          refine Wk.st (g' := (mkF m 62 #[.val (.int i0), .val (.int i1), .val (.int (i1 &&& (3 : Int32))), .val (.int i0), .val .null, .val (.int (1 : Int32)), .unset] [])) (fun X t q => Jvm.RoadKit.acmp (g := (mkF m 59 #[.val (.int i0), .val (.int i1), .val (.int (i1 &&& (3 : Int32))), .val (.int i0), .val .null, .val (.int (1 : Int32)), .unset] [(.ref s_JSON), (.ref s_JSON)])) X C.hx rfl rfl rfl (pc0 := 59) (pc' := 62) (same := true) rfl (hb C.hby at_59) rfl (decide_eq_true (congrArg Value.ref rfl)) (by decide) (by decide) q) ?_
          refine Wk.getS C (hw _ (List.mem_of_getElem? (i := 20) rfl)) (en_S_BINARY EN) at_62 ?_
          show Wk _ p l e _ s m _ below meth c n0 _ h0 0 0 (mkF m 65 #[.val (.int i0), .val (.int i1), .val (.int (i1 &&& (3 : Int32))), .val (.int i0), .val .null, .val (.int (1 : Int32)), .unset] [(.ref s_BINARY)])
          refine Wk.callV C (x := (⟨"com/example/ample_queue/amplequeue/protocol/HeaderEncoding", "code", "()I"⟩ : MethodName)) (z := (⟨"com/example/ample_queue/amplequeue/protocol/HeaderEncoding", "code", "()I"⟩ : MethodName)) (K := "com/example/ample_queue/amplequeue/protocol/HeaderEncoding") (hw _ (List.mem_of_getElem? (i := 15) rfl)) (hw _ (List.mem_of_getElem? (i := 16) rfl)) (hw _ (List.mem_of_getElem? (i := 18) rfl)) (hw _ (List.mem_of_getElem? (i := 17) rfl)) (hw _ (List.mem_of_getElem? (i := 2) rfl)) (hw _ (List.mem_of_getElem? (i := 19) rfl)) (by decide) (fun s' hZ' => notFace_of_selects (args := #[]) (mvT hZ' (hw _ (List.mem_of_getElem? (i := 18) rfl)))) (en_E_BINARY EN) (own_3_3 l Z a0 hw n0 h0 s_JSON s_BINARY EN s_ALL cl AR) (w := 0) (by decide) (by decide) pd_1 rfl (rest := []) rfl rfl (Nat.le_of_eq rfl) (by decide) (by decide) at_65 ?_
          rintro _ _ ⟨rfl, rfl⟩
          show Wk _ p l e _ s m _ below meth c n0 _ h0 0 0 (mkF m 68 #[.val (.int i0), .val (.int i1), .val (.int (i1 &&& (3 : Int32))), .val (.int i0), .val .null, .val (.int (1 : Int32)), .unset] [(.int (1 : Int32))])
          refine Wk.callS C (z := (⟨"com/example/ample_queue/amplequeue/protocol/HeaderEncoding", "of", "(I)Lcom/example/ample_queue/amplequeue/protocol/HeaderEncoding;"⟩ : MethodName)) (hw _ (List.mem_of_getElem? (i := 0) rfl)) (hw _ (List.mem_of_getElem? (i := 1) rfl)) (hw _ (List.mem_of_getElem? (i := 2) rfl)) (hw _ (List.mem_of_getElem? (i := 3) rfl)) (by decide) (own_1_4 l Z a0 hw n0 h0 s_JSON s_BINARY EN s_ALL cl AR) (w := 0) (by decide) (by decide) pd_0 rfl (rest := []) rfl rfl (Nat.le_of_eq rfl) (by decide) (by decide) at_68 ?_
          rintro _ _ ⟨rfl, rfl⟩
          show Wk _ p l e _ s m _ below meth c n0 _ h0 0 0 (mkF m 71 #[.val (.int i0), .val (.int i1), .val (.int (i1 &&& (3 : Int32))), .val (.int i0), .val .null, .val (.int (1 : Int32)), .unset] [(.ref s_BINARY)])
          refine Wk.getS C (hw _ (List.mem_of_getElem? (i := 20) rfl)) (en_S_BINARY EN) at_71 ?_
          show Wk _ p l e _ s m _ below meth c n0 _ h0 0 0 (mkF m 74 #[.val (.int i0), .val (.int i1), .val (.int (i1 &&& (3 : Int32))), .val (.int i0), .val .null, .val (.int (1 : Int32)), .unset] [(.ref s_BINARY), (.ref s_BINARY)])
          refine Wk.st (g' := (mkF m 77 #[.val (.int i0), .val (.int i1), .val (.int (i1 &&& (3 : Int32))), .val (.int i0), .val .null, .val (.int (1 : Int32)), .unset] [])) (fun X t q => Jvm.RoadKit.acmp (g := (mkF m 74 #[.val (.int i0), .val (.int i1), .val (.int (i1 &&& (3 : Int32))), .val (.int i0), .val .null, .val (.int (1 : Int32)), .unset] [(.ref s_BINARY), (.ref s_BINARY)])) X C.hx rfl rfl rfl (pc0 := 74) (pc' := 77) (same := true) rfl (hb C.hby at_74) rfl (decide_eq_true (congrArg Value.ref rfl)) (by decide) (by decide) q) ?_
          refine Wk.st (g' := (mkF m 78 #[.val (.int i0), .val (.int i1), .val (.int (i1 &&& (3 : Int32))), .val (.int i0), .val .null, .val (.int (1 : Int32)), .unset] [(.int (1 : Int32))])) (fun X t q => XS.iconst X.here C.hx rfl (hb C.hby at_77) q) ?_
          refine Wk.st (g' := (mkF m 82 #[.val (.int i0), .val (.int i1), .val (.int (i1 &&& (3 : Int32))), .val (.int i0), .val .null, .val (.int (1 : Int32)), .unset] [(.int (1 : Int32))])) (fun X t q => XS.goto X.here C.hx rfl (pc0 := 78) (pc' := 82) rfl (hb C.hby at_78) (by decide) (by decide) q) ?_
          refine Wk.st (g' := (mkF m 84 #[.val (.int i0), .val (.int i1), .val (.int (i1 &&& (3 : Int32))), .val (.int i0), .val .null, .val (.int (1 : Int32)), .val (.int (1 : Int32))] [])) (fun X t q => XS.istore X.here C.hx rfl (hb C.hby at_82) rfl (l' := #[.val (.int i0), .val (.int i1), .val (.int (i1 &&& (3 : Int32))), .val (.int i0), .val .null, .val (.int (1 : Int32)), .val (.int (1 : Int32))]) rfl q) ?_
          refine Wk.st (g' := (mkF m 86 #[.val (.int i0), .val (.int i1), .val (.int (i1 &&& (3 : Int32))), .val (.int i0), .val .null, .val (.int (1 : Int32)), .val (.int (1 : Int32))] [(.int (1 : Int32))])) (fun X t q => XS.iload X.here C.hx rfl (hb C.hby at_84) rfl q) ?_
          refine Wk.st (g' := (mkF m 89 #[.val (.int i0), .val (.int i1), .val (.int (i1 &&& (3 : Int32))), .val (.int i0), .val .null, .val (.int (1 : Int32)), .val (.int (1 : Int32))] [])) (fun X t q => XS.ifNo X.here C.hx rfl (hb C.hby at_86) rfl (XT.i0_eq_f (by decide)) q) ?_
          refine Wk.st (g' := (mkF m 91 #[.val (.int i0), .val (.int i1), .val (.int (i1 &&& (3 : Int32))), .val (.int i0), .val .null, .val (.int (1 : Int32)), .val (.int (1 : Int32))] [(.int (1 : Int32))])) (fun X t q => XS.iload X.here C.hx rfl (hb C.hby at_89) rfl q) ?_
          refine Wk.st (g' := (mkF m 94 #[.val (.int i0), .val (.int i1), .val (.int (i1 &&& (3 : Int32))), .val (.int i0), .val .null, .val (.int (1 : Int32)), .val (.int (1 : Int32))] [])) (fun X t q => XS.ifNo X.here C.hx rfl (hb C.hby at_91) rfl (XT.i0_eq_f (by decide)) q) ?_
          refine Wk.st (g' := (mkF m 95 #[.val (.int i0), .val (.int i1), .val (.int (i1 &&& (3 : Int32))), .val (.int i0), .val .null, .val (.int (1 : Int32)), .val (.int (1 : Int32))] [(.int (1 : Int32))])) (fun X t q => XS.iconst X.here C.hx rfl (hb C.hby at_94) q) ?_
          refine Wk.st (g' := (mkF m 99 #[.val (.int i0), .val (.int i1), .val (.int (i1 &&& (3 : Int32))), .val (.int i0), .val .null, .val (.int (1 : Int32)), .val (.int (1 : Int32))] [(.int (1 : Int32))])) (fun X t q => XS.goto X.here C.hx rfl (pc0 := 95) (pc' := 99) rfl (hb C.hby at_95) (by decide) (by decide) q) ?_
          exact Wk.retV C (t := .boolean) rfl rfl (Or.inl ⟨rfl, by simp, _, rfl⟩) at_99 (by decide) (by decide) ⟨rfl, trivial⟩
set_option maxRecDepth 65536 in
set_option maxHeartbeats 40000000 in
theorem comes_1 {Post : Tables → Env → Array Value → State → Outcome → State → Prop} (hpost : ∀ tb e args s v u, (limb_1_1.after args s (.returned v) u = true ∧ limb_1_2.after args s (.returned v) u = true ∧ True) → FrameEnd s (.returned v) u (Jvm.fieldLocs frame_1_writes args s ++ Jvm.arrayLocs frame_1_arrays args s ++ Jvm.staticLocs frame_1_statics s) 0 0 → Post tb e args s (.returned v) u) :
    ArmFor flags0 classFile x code maxLocals ret World_1 tables_1 room_1 Calls_1 rest_1 Pre_1 Post := by
  intro l hfl _ _ p e ha hc hk s m args below hf hA hF happ hP
  obtain ⟨hcalls, hrest, hpre⟩ := hP
  obtain ⟨-, -, -, hnamed, -, -, -, hat⟩ := (Spec.applies_iff hf).mp happ
  obtain ⟨hg, hn⟩ := and_e (Cond.before_iff.mp (show (Jvm.Cond.and given_1 narrow_1).before args s = true from hpre))
  obtain ⟨hcount, g0⟩ := and_e hg
  obtain ⟨v0, v1, rfl⟩ : ∃ v0 v1 : Value, args = #[v0, v1] := by
    have hs : args.size = 2 := by simpa [Cond.value, given_1] using hcount
    obtain ⟨L⟩ := args
    match L, hs with
    | [v0, v1], _ => exact ⟨v0, v1, rfl⟩
  have hw := fun d (hd : d ∈ tables_1) => atoms_spec (ws := Jvm.Cond.code x code maxLocals ret :: tables_1) hat d (List.mem_cons_of_mem _ hd)
  have hfit : Fit s := fun {y c} hc i hi => by
    obtain ⟨ha, rfl⟩ := Array.getElem?_eq_some_iff.mp hc
    have q := List.all_eq_true.mp ((Array.all_eq_true_iff_forall_mem.mp hF) _ (Array.getElem_mem ha)) i (List.mem_range.mpr hi)
    simpa [Array.getElem?_eq_getElem hi] using q
  obtain ⟨e0, g1⟩ := and_e g0
  obtain ⟨i0, f0⟩ := is_v e0
  obtain rfl : v0 = (.int i0) := Option.some.inj f0
  obtain ⟨i1, f1⟩ := is_v g1
  obtain rfl : v1 = (.int i1) := Option.some.inj f1
  obtain ⟨c0, hn0⟩ := and_e hn
  obtain ⟨c1, hn1⟩ := and_e hn0
  obtain ⟨c2, hn2⟩ := and_e hn1
  obtain ⟨c3, hn3⟩ := and_e hn2
  obtain ⟨c4, hn4⟩ := and_e hn3
  obtain ⟨c5, hn5⟩ := and_e hn4
  obtain ⟨c6, hn6⟩ := and_e hn5
  have c7 := hn6
  obtain ⟨s_JSON, ev_JSON, S_JSON, E_JSON⟩ := stat_exa (hw _ (List.mem_of_getElem? (i := 2) rfl)) (hw _ (List.mem_of_getElem? (i := 6) rfl)) c2
  have O_JSON_code := fld_int ev_JSON c4
  obtain ⟨s_BINARY, ev_BINARY, S_BINARY, E_BINARY⟩ := stat_exa (hw _ (List.mem_of_getElem? (i := 2) rfl)) (hw _ (List.mem_of_getElem? (i := 9) rfl)) c5
  have O_BINARY_code := fld_int ev_BINARY c7
  obtain ⟨s_ALL, ev_ALL⟩ := arr_v c0
  obtain ⟨cl, A_ALL⟩ := Arr.start ev_ALL c0
  have S_ALL := Sta.start ev_ALL (Or.inr ⟨(hw _ (List.mem_of_getElem? (i := 2) rfl)), (hw _ (List.mem_of_getElem? (i := 5) rfl))⟩)
  obtain ⟨n, o, h1, h2, h3, _, L, rfl, ⟨⟨rfl, -⟩, N⟩, hq⟩ := law_met l s _ hw s.heap.size s.heap i0 i1 s_JSON s_BINARY ⟨S_JSON, E_JSON, O_JSON_code, S_BINARY, E_BINARY, O_BINARY_code⟩ s_ALL cl ⟨S_ALL, A_ALL, len_is ev_ALL A_ALL c1, elem_is ev_ALL ev_JSON A_ALL.1 c3, elem_is ev_ALL ev_BINARY A_ALL.1 c6⟩ tables_1 p e ha hc hk s m _ below hf ((Spec.applies_iff_loose hf).mp happ).1 ⟨rfl, State.Warmed39.refl s, rfl⟩ trivial
  refine ⟨n, _, h1, h2, h3, hpost _ _ _ _ _ _ ⟨Cond.after_iff.mpr rfl, Cond.after_iff.mpr (eq_i res_at (Term.int_eval (1)) rfl), trivial⟩ ⟨hq.1, hq.2.1, (hq.2.2.sift fun y hy => Or.inr (N y hy)).mono (by decide) (by decide)⟩⟩
theorem main_1_1 : Claimed_1_1 := comes_1 fun _ _ _ _ _ _ h hF => ⟨h.1, hF⟩
theorem main_1_2 : Claimed_1_2 := comes_1 fun _ _ _ _ _ _ h hF => ⟨h.2.1, hF⟩
end Jvm.Pilot.@@N@@
namespace Jvm.Pilot.@@N@@
open Jvm Jvm.ClassFile Sem Op Lib Jvm.Free Jvm.Stand Jvm.Pilot.@@N@@.Jvm.D
/-! MADE BY PROGRAM (witnessworld.py) out of the Statement's table words and the real class files: 13 classes; the members and pool entries that the words name. The judged class is class 1, her method 2. -/
namespace start1
open Jvm.ClassFile
def u (s : String) : CpInfo := .utf8 (stringToUtf16 s)
/-- a pool by its gaps: so many unusable entries, then the entry; so many at the end -/
def gap : Nat → List CpInfo → List CpInfo
  | 0, r => r
  | n + 1, r => .unusable :: gap n r
def poolList (es : List (Nat × CpInfo)) (last : Nat) : List CpInfo := es.foldr (fun e r => gap e.1 (e.2 :: r)) (gap last [])
def pool (es : List (Nat × CpInfo)) (last : Nat) : Array CpInfo := ⟨poolList es last⟩
def fileOf (pool : Array CpInfo) (this : Nat) (attrs : Array Attribute := #[]) (ms : Array MethodInfo := #[]) (fl : Nat := 33) (sup : Nat := 0) (ifs : Array Nat := #[]) (fds : Array FieldInfo := #[]) : ClassFile where
  minorVersion := 0
  majorVersion := 65
  constantPool := pool
  accessFlags := fl
  thisClass := this
  superClass := sup
  interfaces := ifs
  fields := fds
  methods := ms
  attributes := attrs
def plain (name : String) (sup : Option ClassId) : Class where
  name := name
  kind := .ordinary
  loader := none
  accessFlags := 33
  super := sup
  interfaces := #[]
  cf := none
  fields := #[]
  methods := #[]
  instanceTypes := #[]
  staticTypes := #[]
  resolved := #[]
  callSites := []
  init := .initialized
  statics := none
  mirror := none

def pool0 : Array CpInfo := pool [(5, u "<init>"), (0, u "()V"), (1, .class_ 10), (1, u "java/lang/Object")] 113

def k0m0 : Method := { name := "<init>", desc := "()V", sig := { parameters := [], returnType := none }, accessFlags := 1, code := none }
/-- java/lang/Object -/
def k0 : Class := { plain "java/lang/Object" none with
  accessFlags := 33
  interfaces := #[]
  cf := some (fileOf pool0 8 #[] #[{ accessFlags := 1, nameIndex := 5, descriptorIndex := 6, attributes := #[] }] 33 0 #[] #[])
  fields := #[]
  methods := #[k0m0]
  instanceTypes := #[]
  staticTypes := #[]
  resolved := Array.replicate 124 none
  statics := none }

def pool1 : Array CpInfo := pool [(2, .class_ 4), (1, u "java/lang/Object"), (0, u "<init>"), (0, u "()V"), (0, .fieldref 8 9), (0, .class_ 10), (0, .nameAndType 11 12), (0, u "com/example/ample_queue/amplequeue/protocol/HeaderEncoding"), (0, u "JSON"), (0, u "Lcom/example/ample_queue/amplequeue/protocol/HeaderEncoding;"), (0, .fieldref 8 14), (0, .nameAndType 15 12), (0, u "BINARY"), (0, .methodref 8 17), (0, .nameAndType 18 19), (0, u "of"), (0, u "(I)Lcom/example/ample_queue/amplequeue/protocol/HeaderEncoding;"), (0, .methodref 21 22), (0, .class_ 23), (0, .nameAndType 24 19), (0, u "com/example/ample_queue/amplequeue/protocol/HeaderEncodingOfPinLaw"), (0, u "expected"), (0, .methodref 8 26), (0, .nameAndType 27 28), (0, u "code"), (0, u "()I"), (3, u "law"), (0, u "(II)Z")] 2

def k1m0 : Method := { name := "<init>", desc := "()V", sig := { parameters := [], returnType := none }, accessFlags := 2, code := none }
def k1c1 : Code := { maxStack := 2, maxLocals := 1, code := method_2_code, exceptionTable := #[], attributes := #[] }
def k1m1 : Method := { name := "expected", desc := "(I)Lcom/example/ample_queue/amplequeue/protocol/HeaderEncoding;", sig := { parameters := [.int], returnType := some (.object "com/example/ample_queue/amplequeue/protocol/HeaderEncoding") }, accessFlags := 10, code := some k1c1 }
def k1c2 : Code := { maxStack := 2, maxLocals := 7, code := code, exceptionTable := #[], attributes := #[] }
def k1m2 : Method := { name := "law", desc := "(II)Z", sig := { parameters := [.int, .int], returnType := some .boolean }, accessFlags := 9, code := some k1c2 }
/-- com/example/ample_queue/amplequeue/protocol/HeaderEncodingOfPinLaw -/
def k1 : Class := { plain "com/example/ample_queue/amplequeue/protocol/HeaderEncodingOfPinLaw" (some 0) with
  accessFlags := 49
  interfaces := #[]
  cf := some (fileOf pool1 21 #[] #[{ accessFlags := 2, nameIndex := 5, descriptorIndex := 6, attributes := #[] }, { accessFlags := 10, nameIndex := 24, descriptorIndex := 19, attributes := #[] }, { accessFlags := 9, nameIndex := 32, descriptorIndex := 33, attributes := #[] }] 49 2 #[] #[])
  fields := #[]
  methods := #[k1m0, k1m1, k1m2]
  instanceTypes := #[]
  staticTypes := #[]
  resolved := Array.replicate 36 none
  statics := none }

def pool2 : Array CpInfo := pool [(1, .class_ 2), (0, u "java/lang/constant/Constable"), (0, .class_ 4), (0, u "java/lang/Object")] 6

/-- java/lang/constant/Constable -/
def k2 : Class := { plain "java/lang/constant/Constable" (some 0) with
  accessFlags := 1537
  interfaces := #[]
  cf := some (fileOf pool2 1 #[] #[] 1537 3 #[] #[])
  fields := #[]
  methods := #[]
  instanceTypes := #[]
  staticTypes := #[]
  resolved := Array.replicate 11 none
  statics := none }

def pool3 : Array CpInfo := pool [(1, .class_ 2), (0, u "java/lang/Comparable"), (0, .class_ 4), (0, u "java/lang/Object")] 7

/-- java/lang/Comparable -/
def k3 : Class := { plain "java/lang/Comparable" (some 0) with
  accessFlags := 1537
  interfaces := #[]
  cf := some (fileOf pool3 1 #[] #[] 1537 3 #[] #[])
  fields := #[]
  methods := #[]
  instanceTypes := #[]
  staticTypes := #[]
  resolved := Array.replicate 12 none
  statics := none }

def pool4 : Array CpInfo := pool [(1, .class_ 2), (0, u "java/io/Serializable"), (0, .class_ 4), (0, u "java/lang/Object")] 2

/-- java/io/Serializable -/
def k4 : Class := { plain "java/io/Serializable" (some 0) with
  accessFlags := 1537
  interfaces := #[]
  cf := some (fileOf pool4 1 #[] #[] 1537 3 #[] #[])
  fields := #[]
  methods := #[]
  instanceTypes := #[]
  staticTypes := #[]
  resolved := Array.replicate 7 none
  statics := none }

def pool5 : Array CpInfo := pool [(2, .class_ 4), (1, u "java/lang/Enum"), (0, u "name"), (0, u "Ljava/lang/String;"), (2, u "ordinal"), (0, u "I"), (1, .class_ 14), (1, u "java/lang/Object"), (4, u "hash"), (86, .class_ 108), (1, u "java/lang/Enum$EnumDesc"), (2, .class_ 112), (0, u "java/lang/constant/Constable"), (0, .class_ 114), (0, u "java/lang/Comparable"), (0, .class_ 116), (0, u "java/io/Serializable")] 87

/-- java/lang/Enum -/
def k5 : Class := { plain "java/lang/Enum" (some 0) with
  accessFlags := 1057
  interfaces := #[2, 3, 4]
  cf := some (fileOf pool5 2 #[.nestMembers #[106]] #[] 1057 12 #[111, 113, 115] #[{ accessFlags := 18, nameIndex := 5, descriptorIndex := 6, attributes := #[] }, { accessFlags := 18, nameIndex := 9, descriptorIndex := 10, attributes := #[] }, { accessFlags := 2, nameIndex := 19, descriptorIndex := 10, attributes := #[] }])
  fields := #[{ name := "name", type := (.object "java/lang/String"), accessFlags := 18, slot := 0, constantValue := 0 }, { name := "ordinal", type := .int, accessFlags := 18, slot := 1, constantValue := 0 }, { name := "hash", type := .int, accessFlags := 2, slot := 2, constantValue := 0 }]
  methods := #[]
  instanceTypes := #[(.object "java/lang/String"), .int, .int]
  staticTypes := #[]
  resolved := Array.replicate 204 none
  statics := none }

def pool6 : Array CpInfo := pool [(1, .class_ 2), (0, u "com/example/ample_queue/amplequeue/protocol/HeaderEncoding"), (2, u "JSON"), (0, u "Lcom/example/ample_queue/amplequeue/protocol/HeaderEncoding;"), (2, u "BINARY"), (2, u "$VALUES"), (0, u "[Lcom/example/ample_queue/amplequeue/protocol/HeaderEncoding;"), (6, .class_ 22), (1, u "java/lang/Enum"), (6, .fieldref 1 30), (0, .nameAndType 31 32), (0, u "code"), (0, u "I"), (0, .fieldref 1 34), (0, .nameAndType 35 13), (0, u "ALL"), (18, u "()I"), (0, u "of"), (0, u "(I)Lcom/example/ample_queue/amplequeue/protocol/HeaderEncoding;")] 6

def k6c0 : Code := { maxStack := 1, maxLocals := 1, code := prog_42_method_4_code, exceptionTable := #[], attributes := #[] }
def k6m0 : Method := { name := "code", desc := "()I", sig := { parameters := [], returnType := some .int }, accessFlags := 1, code := some k6c0 }
def k6c1 : Code := { maxStack := 2, maxLocals := 6, code := prog_42_method_5_code, exceptionTable := #[], attributes := #[] }
def k6m1 : Method := { name := "of", desc := "(I)Lcom/example/ample_queue/amplequeue/protocol/HeaderEncoding;", sig := { parameters := [.int], returnType := some (.object "com/example/ample_queue/amplequeue/protocol/HeaderEncoding") }, accessFlags := 9, code := some k6c1 }
/-- com/example/ample_queue/amplequeue/protocol/HeaderEncoding -/
def k6 : Class := { plain "com/example/ample_queue/amplequeue/protocol/HeaderEncoding" (some 5) with
  accessFlags := 16433
  interfaces := #[]
  cf := some (fileOf pool6 1 #[] #[{ accessFlags := 1, nameIndex := 31, descriptorIndex := 54, attributes := #[] }, { accessFlags := 9, nameIndex := 55, descriptorIndex := 56, attributes := #[] }] 16433 20 #[] #[{ accessFlags := 16409, nameIndex := 5, descriptorIndex := 6, attributes := #[] }, { accessFlags := 16409, nameIndex := 9, descriptorIndex := 6, attributes := #[] }, { accessFlags := 26, nameIndex := 35, descriptorIndex := 13, attributes := #[] }, { accessFlags := 18, nameIndex := 31, descriptorIndex := 32, attributes := #[] }, { accessFlags := 4122, nameIndex := 12, descriptorIndex := 13, attributes := #[] }])
  fields := #[{ name := "JSON", type := (.object "com/example/ample_queue/amplequeue/protocol/HeaderEncoding"), accessFlags := 16409, slot := 0, constantValue := 0 }, { name := "BINARY", type := (.object "com/example/ample_queue/amplequeue/protocol/HeaderEncoding"), accessFlags := 16409, slot := 1, constantValue := 0 }, { name := "ALL", type := (.array (.object "com/example/ample_queue/amplequeue/protocol/HeaderEncoding")), accessFlags := 26, slot := 2, constantValue := 0 }, { name := "code", type := .int, accessFlags := 18, slot := 3, constantValue := 0 }, { name := "$VALUES", type := (.array (.object "com/example/ample_queue/amplequeue/protocol/HeaderEncoding")), accessFlags := 4122, slot := 3, constantValue := 0 }]
  methods := #[k6m0, k6m1]
  instanceTypes := #[(.object "java/lang/String"), .int, .int, .int]
  staticTypes := #[(.object "com/example/ample_queue/amplequeue/protocol/HeaderEncoding"), (.object "com/example/ample_queue/amplequeue/protocol/HeaderEncoding"), (.array (.object "com/example/ample_queue/amplequeue/protocol/HeaderEncoding")), (.array (.object "com/example/ample_queue/amplequeue/protocol/HeaderEncoding"))]
  resolved := Array.replicate 63 none
  statics := some 0 }

def pool7 : Array CpInfo := pool [(1, u "java/lang/Cloneable"), (0, .class_ 1), (0, u "java/lang/Object"), (0, .class_ 3)] 3

/-- java/lang/Cloneable -/
def k7 : Class := { plain "java/lang/Cloneable" (some 0) with
  accessFlags := 1537
  interfaces := #[]
  cf := some (fileOf pool7 2 #[] #[] 1537 4 #[] #[])
  fields := #[]
  methods := #[]
  instanceTypes := #[]
  staticTypes := #[]
  resolved := Array.replicate 8 none
  statics := none }

/-- the primitive byte -/
def k8 : Class := { plain "byte" none with kind := .primitive 'B', accessFlags := 0x411 }
/-- [B -/
def k9 : Class := { plain "[B" (some 0) with kind := .array 8 .byte, interfaces := #[7, 4], accessFlags := 1041 }

/-- the primitive int -/
def k10 : Class := { plain "int" none with kind := .primitive 'I', accessFlags := 0x411 }
/-- [I -/
def k11 : Class := { plain "[I" (some 0) with kind := .array 10 .int, interfaces := #[7, 4], accessFlags := 1041 }

/-- [Lcom/example/ample_queue/amplequeue/protocol/HeaderEncoding; -/
def k12 : Class := { plain "[Lcom/example/ample_queue/amplequeue/protocol/HeaderEncoding;" (some 0) with kind := .array 6 (.object "com/example/ample_queue/amplequeue/protocol/HeaderEncoding"), interfaces := #[7, 4], accessFlags := 1041 }

def heap : Heap := #[{ cls := 6, slots := #[.ref 2, .ref 3, .ref 1, .null], vm := .statics 6 },
  { cls := 12, slots := #[.ref 2, .ref 3], vm := .none },
  { cls := 6, slots := #[.null, .int 0, .int 0, .int 0], vm := .none },
  { cls := 6, slots := #[.null, .int 1, .int 0, .int 1], vm := .none }]
def classes : Array Class := #[k0, k1, k2, k3, k4, k5, k6, k7, k8, k9, k10, k11, k12]
def interned : List (Array UInt16 × Addr) := []
def slotsUsed : Nat := 14
def theMethod : MethodId := ⟨1, 2⟩
def args0 : Array Value := #[.int 5, .int 7]
def aboutOver (below : List Frame) : State where
  vm := { classes := classes, interned := interned.toArray }
  heap := heap
  slotsUsed := slotsUsed
  threads := #[{ frames := .invoking theMethod args0 :: below }]
def below0 : List Frame := [.native { method := ⟨0, 0⟩, args := #[] }]
def about1 : State := aboutOver below0
def p0 : Program := .bare "" "" ""
def e0 : Env := launch0.env 0 0 0
theorem w_frames : about1.frames = Frame.invoking theMethod args0 :: below0 := rfl
set_option maxRecDepth 65536 in
theorem w_args : argsFit about1.vm theMethod args0 = true := by decide +kernel
set_option maxRecDepth 65536 in
theorem w_heap : heapFits about1 = true := by decide +kernel
set_option maxRecDepth 65536 in
theorem w_runnable : about1.curStatus? = some .runnable := by decide +kernel
set_option maxRecDepth 65536 in
theorem w_alone : about1.alone = true := by decide +kernel
set_option maxRecDepth 65536 in
theorem w_named : about1.methodNamed? x = some theMethod := by decide +kernel
set_option maxRecDepth 65536 in
theorem w_hears : about1.hears theMethod below0 = true := by decide +kernel
set_option maxRecDepth 65536 in
theorem w_ripe : about1.ripe theMethod args0 below0 = true := by decide +kernel
theorem w_running : about1.status = .running := rfl
set_option maxRecDepth 65536 in
theorem w_room : about1.hasRoom e0.platform room_1 = true :=
  launch0.hasRoom_least _ room_1 (by decide +kernel) (by decide +kernel) (by decide +kernel) (by decide +kernel) (by decide +kernel) (by decide +kernel)
theorem allAtoms_all (ts : List Jvm.Cond) (a : Array Jvm.Value) (st : Jvm.State) : (allAtoms ts).before a st = ts.all (fun c => c.before a st) := by
  induction ts with
  | nil => rfl
  | cons c t ih =>
    show (Jvm.Cond.and c (allAtoms t)).before a st = _
    rw [Jvm.Cond.before_and, ih, List.all_cons]
def words1 : List Jvm.Cond := Jvm.Cond.code x code maxLocals ret :: tables_1
/-- a 'code' word, met by the world's own term for the bytes: nothing is compared byte by byte -/
theorem code_word {y : MethodName} {bytes : ByteArray} {mx : Nat} {rt : Option FieldType} {a : Array Value} {s : State} {m : MethodId} {meth : Method} {c : Code} (h1 : s.methodNamed? y = some m) (h2 : s.vm.method? m = some meth) (h3 : meth.code = some c) (h4 : c.code = bytes)
    (h5 : (c.maxLocals == mx && c.exceptionTable.isEmpty && decide (c.maxStack ≤ mostOperands) && decide (meth.sig.returnType = rt) && !meth.locks && decide (parseMethodDescriptor y.desc = some meth.sig)) = true) : (Jvm.Cond.code y bytes mx rt).before a s = true := by
  simp only [Bool.and_eq_true, beq_iff_eq, Bool.not_eq_true', decide_eq_true_eq] at h5
  obtain ⟨⟨⟨⟨⟨g1, g2⟩, g3⟩, g4⟩, g5⟩, g6⟩ := h5
  simp [Cond.before, Cond.holds, Cond.value, h1, h2, h3, h4, g1, g2, g3, g4, g5, g6]
def isCode : Jvm.Cond → Bool
  | .code _ _ _ _ => true
  | _ => false
theorem all_split {L : List Jvm.Cond} {P : Jvm.Cond → Bool} (h1 : L.all (fun c => isCode c || P c) = true) (h2 : ∀ c ∈ L.filter isCode, P c = true) : L.all P = true := by
  refine List.all_eq_true.mpr fun c hc => ?_
  have h := List.all_eq_true.mp h1 c hc
  rcases Bool.eq_false_or_eq_true (isCode c) with hi | hi
  · exact h2 c (List.mem_filter.mpr ⟨hc, hi⟩)
  · simpa [hi] using h
set_option maxRecDepth 65536 in
theorem w_c0 : (Jvm.Cond.code x code maxLocals ret).before args0 about1 = true := code_word (m := ⟨1, 2⟩) (meth := k1m2) (c := k1c2) (by decide +kernel) rfl rfl rfl (by decide +kernel)
set_option maxRecDepth 65536 in
theorem w_c1 : (Jvm.Cond.code ({ cls := "com/example/ample_queue/amplequeue/protocol/HeaderEncoding", name := "of", desc := "(I)Lcom/example/ample_queue/amplequeue/protocol/HeaderEncoding;" } : Jvm.MethodName) prog_42_method_5_code (6 : Nat) (Option.some (Jvm.ClassFile.FieldType.object "com/example/ample_queue/amplequeue/protocol/HeaderEncoding"))).before args0 about1 = true := code_word (m := ⟨6, 1⟩) (meth := k6m1) (c := k6c1) (by decide +kernel) rfl rfl rfl (by decide +kernel)
set_option maxRecDepth 65536 in
theorem w_c2 : (Jvm.Cond.code ({ cls := "com/example/ample_queue/amplequeue/protocol/HeaderEncodingOfPinLaw", name := "expected", desc := "(I)Lcom/example/ample_queue/amplequeue/protocol/HeaderEncoding;" } : Jvm.MethodName) method_2_code (1 : Nat) (Option.some (Jvm.ClassFile.FieldType.object "com/example/ample_queue/amplequeue/protocol/HeaderEncoding"))).before args0 about1 = true := code_word (m := ⟨1, 1⟩) (meth := k1m1) (c := k1c1) (by decide +kernel) rfl rfl rfl (by decide +kernel)
set_option maxRecDepth 65536 in
theorem w_c3 : (Jvm.Cond.code ({ cls := "com/example/ample_queue/amplequeue/protocol/HeaderEncoding", name := "code", desc := "()I" } : Jvm.MethodName) prog_42_method_4_code (1 : Nat) (Option.some Jvm.ClassFile.FieldType.int)).before args0 about1 = true := code_word (m := ⟨6, 0⟩) (meth := k6m0) (c := k6c0) (by decide +kernel) rfl rfl rfl (by decide +kernel)
def codes1 : List Jvm.Cond := [Jvm.Cond.code x code maxLocals ret, Jvm.Cond.code ({ cls := "com/example/ample_queue/amplequeue/protocol/HeaderEncoding", name := "of", desc := "(I)Lcom/example/ample_queue/amplequeue/protocol/HeaderEncoding;" } : Jvm.MethodName) prog_42_method_5_code (6 : Nat) (Option.some (Jvm.ClassFile.FieldType.object "com/example/ample_queue/amplequeue/protocol/HeaderEncoding")), Jvm.Cond.code ({ cls := "com/example/ample_queue/amplequeue/protocol/HeaderEncodingOfPinLaw", name := "expected", desc := "(I)Lcom/example/ample_queue/amplequeue/protocol/HeaderEncoding;" } : Jvm.MethodName) method_2_code (1 : Nat) (Option.some (Jvm.ClassFile.FieldType.object "com/example/ample_queue/amplequeue/protocol/HeaderEncoding")), Jvm.Cond.code ({ cls := "com/example/ample_queue/amplequeue/protocol/HeaderEncoding", name := "code", desc := "()I" } : Jvm.MethodName) prog_42_method_4_code (1 : Nat) (Option.some Jvm.ClassFile.FieldType.int)]
set_option maxRecDepth 65536 in
theorem codes_eq : words1.filter isCode = codes1 := rfl
theorem w_codes : ∀ c ∈ words1.filter isCode, c.before args0 about1 = true := by
  rw [codes_eq]
  intro c hc
  simp only [codes1, List.mem_cons, List.not_mem_nil, or_false] at hc
  rcases hc with rfl | rfl | rfl | rfl
  · exact w_c0
  · exact w_c1
  · exact w_c2
  · exact w_c3
set_option maxRecDepth 65536 in
theorem w_t1 : words1.all (fun c => isCode c || c.before args0 about1) = true := by decide +kernel
theorem w_tables : (allAtoms (Jvm.Cond.code x code maxLocals ret :: tables_1)).before args0 about1 = true := by
  rw [allAtoms_all]
  show words1.all (fun c => c.before args0 about1) = true
  refine all_split ?_ w_codes
  rw [w_t1]
set_option maxRecDepth 65536 in
theorem w_case : (Jvm.Cond.and given_1 narrow_1).before args0 about1 = true := by decide +kernel
theorem w_applies : (headSpec (Jvm.Cond.code x code maxLocals ret :: tables_1) room_1).applies x e0.platform about1 = true :=
  (Spec.applies_iff w_frames).mpr ⟨w_running, w_runnable, w_alone, w_named, w_hears, w_ripe, w_room, w_tables⟩
theorem atStart : AtStart classFile x code maxLocals ret World_1 tables_1 room_1 Calls_1 rest_1 Pre_1 launch0 p0 e0 about1 theMethod args0 below0 :=
  ⟨lists_1, trivial, launch0.admits_env _ _ _, launch0.least_env, fairChoices_fair.cas, fairChoices_fair.clock, w_frames, w_args, w_heap, w_applies, trivial, trivial, w_case⟩
end start1
theorem witness_1 : WitnessClaimed_1 := ⟨start1.p0, start1.e0, start1.about1, start1.theMethod, start1.args0, start1.below0, start1.atStart⟩
end Jvm.Pilot.@@N@@
