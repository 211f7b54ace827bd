import JvmDerived
import JvmDerived.Pilot.@@N@@Statement
import JvmDerived.Pilot.@@N@@Code
set_option linter.unusedVariables false
set_option linter.unusedSimpArgs false
namespace Jvm.Own
open Jvm Jvm.ClassFile Sem Op Lib Jvm.Free Jvm.Stand Jvm.LawKit Jvm.RoadKit
/-! MY LAYER: a goal 'Wk' over the library's Stand (from any state that stands here with the heap h, the walk comes to its end and Q holds), one rule a step; W: may the walk intern (wide frame). -/
def Bs (W : Bool) (s : State) (vm0 : Vm) (sz : Nat) : Prop := match W with
  | false => vm0 = s.vm
  | true => ∃ k0, s.Since vm0 k0 ∧ k0 ≤ sz
def En (W : Bool) (s : State) (o : Outcome) (t : State) (L : List Loc) (k n : Nat) : Prop := match W with
  | false => FrameEnd s o t L k n
  | true => ReturnedEndW s o t L k n
def Cx (Z : State) (p : Program) (s : State) (m : MethodId) (meth : Method) (c : Code) (y : MethodName) (bytes : ByteArray) (maxL : Nat) (ret : Option FieldType) : Prop :=
  p.tables.exec = Jvm.exec ∧ c.code = bytes ∧ c.maxLocals = maxL ∧ Z.Warmed39 s.vm ∧ s.vm.findClass y.cls = some m.cls ∧ meth.name = y.name ∧ meth.sig.returnType = ret ∧ meth.locks = false
def Wk (W : Bool) (p : Program) (l : Launch) (e : Env) (R : Room) (s : State) (m : MethodId) (args : Array Value) (below : List Frame) (meth : Method) (c : Code) (n0 : Nat) (Q : Option Value → Heap → Prop) (h : Heap) (k n : Nat) (g : JFrame) : Prop :=
  ∀ T L vm0, Stand p l e R (s.setVm vm0) m args below meth c T L k n → Bs W s vm0 h.size → T.heap = h → Fr n0 L →
    ∃ s₂ o, Steps p.tables e below (T.setTop g) s₂ ∧ s₂.status = .running ∧ Ended s₂ below o ∧ ∃ v L, o = .returned v ∧ (Q v s₂.heap ∧ Fr n0 L) ∧ En W s o s₂ L R.cells R.slots
def Met (W : Bool) (l : Launch) (Z : State) (n0 : Nat) (y : MethodName) (bytes : ByteArray) (maxL : Nat) (ret : Option FieldType) (rm : Room) (as : Array Value) (h : Heap) (Q : Option Value → Heap → Prop) : Prop :=
  ∀ ws, MetFree l y (head1 (Cond.code y bytes maxL ret :: ws) rm) (fun a U => a = as ∧ Z.Warmed39 U.vm ∧ U.heap = h) (fun _ _ _ _ _ => True)
    (fun _ U o U' => ∃ v L, o = .returned v ∧ (Q v U'.heap ∧ Fr n0 L) ∧ En W U o U' L rm.cells rm.slots)
theorem Bs.start (W : Bool) (s : State) (sz : Nat) : Bs W s s.vm sz := by
  cases W
  · rfl
  · exact ⟨0, (State.WarmedH.refl s).since 0, Nat.zero_le _⟩
theorem Bs.mono {W : Bool} {s : State} {vm0 : Vm} {a b : Nat} (B : Bs W s vm0 a) (q : a ≤ b) : Bs W s vm0 b := by
  cases W
  · exact B
  · obtain ⟨k0, h1, h2⟩ := B; exact ⟨k0, h1, Nat.le_trans h2 q⟩
theorem Bs.warm {W : Bool} {s : State} {vm0 : Vm} {a : Nat} (B : Bs W s vm0 a) : s.Warmed39 vm0 := by
  cases W
  · cases (B : vm0 = s.vm); exact State.Warmed39.refl s
  · obtain ⟨k0, h1, h2⟩ := B; exact h1.1
section Cxs
variable {W : Bool} {Z : State} {p : Program} {s : State} {m : MethodId} {meth : Method} {c : Code} {y : MethodName} {bytes : ByteArray} {maxL : Nat} {ret : Option FieldType}
theorem Cx.hx (C : Cx Z p s m meth c y bytes maxL ret) : p.tables.exec = Jvm.exec := C.1
theorem Cx.hby (C : Cx Z p s m meth c y bytes maxL ret) : c.code = bytes := C.2.1
theorem Cx.hml (C : Cx Z p s m meth c y bytes maxL ret) : c.maxLocals = maxL := C.2.2.1
theorem Cx.hZ (C : Cx Z p s m meth c y bytes maxL ret) : Z.Warmed39 s.vm := C.2.2.2.1
theorem Cx.hown (C : Cx Z p s m meth c y bytes maxL ret) : s.vm.findClass y.cls = some m.cls := C.2.2.2.2.1
theorem Cx.hnm (C : Cx Z p s m meth c y bytes maxL ret) : meth.name = y.name := C.2.2.2.2.2.1
theorem Cx.hret (C : Cx Z p s m meth c y bytes maxL ret) : meth.sig.returnType = ret := C.2.2.2.2.2.2.1
theorem Cx.hlk (C : Cx Z p s m meth c y bytes maxL ret) : meth.locks = false := C.2.2.2.2.2.2.2
theorem Cx.wZ (C : Cx Z p s m meth c y bytes maxL ret) {vm0 : Vm} {a : Nat} (B : Bs W s vm0 a) : Z.Warmed39 (s.setVm vm0).vm := State.Warmed39.trans (t := s) C.hZ B.warm
theorem Cx.wo (C : Cx Z p s m meth c y bytes maxL ret) {vm0 : Vm} {a : Nat} (B : Bs W s vm0 a) : (s.setVm vm0).vm.findClass y.cls = some m.cls := by
  show vm0.findClass y.cls = _
  rw [B.warm.alike.findClass]; exact C.hown
end Cxs
theorem Met.of {W : Bool} {l : Launch} {Z : State} {n0 : Nat} {y : MethodName} {bytes : ByteArray} {maxL : Nat} {ret : Option FieldType} {rm : Room} {as : Array Value} {h : Heap} {Q : Option Value → Heap → Prop}
    (hpn : plainName y.cls = true) (Ls : Array Slot) (hef : ∀ m, entryFrame m as maxL = mkF m 0 Ls [])
    (H : ∀ p e s m below meth c, Cx Z p s m meth c y bytes maxL ret → Wk W p l e rm s m as below meth c n0 Q h 0 0 (mkF m 0 Ls [])) : Met W l Z n0 y bytes maxL ret rm as h Q := by
  intro ws
  refine MetFree.of_bodySF (plainFor_of_name hpn) hisR ?_
  intro p e s m args below meth c s₁ Bd hml0 hP hK
  obtain ⟨ha, hZ, hh⟩ := hP
  have hown := findClass_of_methodNamed Bd.named
  have hnm := (name_of_methodNamed Bd.named Bd.method).1
  have e0 : s₁.heap = h := by rw [← hh, Bd.state]; rfl
  have X0 : Stand p l e rm s m args below meth c s₁ [] 0 0 := Stand.of_body Bd
  rw [ha] at X0 ⊢
  obtain ⟨s₂, o, h1, h2⟩ := H p e s m below meth c ⟨Bd.exec, Bd.bytes, hml0, hZ, hown, hnm, Bd.returns, Bd.notSynchronized⟩ s₁ [] s.vm X0 (Bs.start W s _) e0 (Fr.nil n0)
  exact ⟨s₂, o, castTop (hef m) h1, h2⟩
section Rules
variable {W : Bool} {Z : State} {p : Program} {l : Launch} {e : Env} {R : Room} {s : State} {m : MethodId} {args : Array Value} {below : List Frame} {meth : Method} {c : Code} {y : MethodName} {bytes : ByteArray} {maxL : Nat} {ret : Option FieldType} {n0 : Nat} {Q : Option Value → Heap → Prop} {h : Heap} {k n : Nat} {g g' : JFrame} {a0 : Array Value}
theorem Wk.more {k' n' : Nat} (q1 : k ≤ k') (q2 : n ≤ n') (H : Wk W p l e R s m args below meth c n0 Q h k' n' g) : Wk W p l e R s m args below meth c n0 Q h k n g :=
  fun T L vm0 X B eT N => H T L vm0 (X.more q1 q2) B eT N
theorem Wk.st (f : ∀ {T : State} {L : List Loc} {vm0 : Vm}, Stand p l e R (s.setVm vm0) m args below meth c T L k n → ∀ t, Steps p.tables e below (T.setTop g') t → Steps p.tables e below (T.setTop g) t)
    (H : Wk W p l e R s m args below meth c n0 Q h k n g') : Wk W p l e R s m args below meth c n0 Q h k n g := by
  intro T L vm0 X B eT N
  obtain ⟨s₂, o, h1, h2⟩ := H T L vm0 X B eT N
  exact ⟨s₂, o, f X _ h1, h2⟩
/-- a step that needs the tables (as they stand at vm0) and the heap, and leaves the heap -/
theorem Wk.stZ (C : Cx Z p s m meth c y bytes maxL ret) (f : ∀ {T : State} {L : List Loc} {vm0 : Vm}, Stand p l e R (s.setVm vm0) m args below meth c T L k n → Z.Warmed39 (s.setVm vm0).vm → (s.setVm vm0).vm.findClass y.cls = some m.cls → T.heap = h → ∃ T', Stand p l e R (s.setVm vm0) m args below meth c T' L k n ∧ T'.heap = h ∧ ∀ t, Steps p.tables e below (T'.setTop g') t → Steps p.tables e below (T.setTop g) t)
    (H : Wk W p l e R s m args below meth c n0 Q h k n g') : Wk W p l e R s m args below meth c n0 Q h k n g := by
  intro T L vm0 X B eT N
  obtain ⟨T', X', e', st⟩ := f X (C.wZ B) (C.wo B) eT
  obtain ⟨s₂, o, h1, h2⟩ := H T' L vm0 X' B e' N
  exact ⟨s₂, o, st _ h1, h2⟩
/-- a step that writes one place of a new cell -/
theorem Wk.stW (C : Cx Z p s m meth c y bytes maxL ret) {a : Addr} {sl : Nat} {v : Value} (ge : n0 ≤ a) (f : ∀ {T : State} {L : List Loc} {vm0 : Vm}, Stand p l e R (s.setVm vm0) m args below meth c T L k n → Z.Warmed39 (s.setVm vm0).vm → (s.setVm vm0).vm.findClass y.cls = some m.cls → T.heap = h → ∃ T' h', Stand p l e R (s.setVm vm0) m args below meth c T' (L ++ [⟨a, sl⟩]) k n ∧ T'.heap = h' ∧ Wr h h' a sl v ∧ ∀ t, Steps p.tables e below (T'.setTop g') t → Steps p.tables e below (T.setTop g) t)
    (H : ∀ h', Wr h h' a sl v → Wk W p l e R s m args below meth c n0 Q h' k n g') : Wk W p l e R s m args below meth c n0 Q h k n g := by
  intro T L vm0 X B eT N
  obtain ⟨T', h', X', e', Wh, st⟩ := f X (C.wZ B) (C.wo B) eT
  obtain ⟨s₂, o, h1, h2⟩ := H h' Wh T' _ vm0 X' (B.mono (Nat.le_of_eq Wh.size.symm)) e' (Fr.snoc X' N ge)
  exact ⟨s₂, o, st _ h1, h2⟩
theorem Wk.ldcI (C : Cx Z p s m meth c y bytes maxL ret) {index : Nat} {v : Int32} (w : (Cond.constant y.cls index v).before a0 Z = true) {pc : Nat} {Ls : Array Slot} {st : List Value} (hd : decode bytes pc = .ok (.ldc index, 2))
    (H : Wk W p l e R s m args below meth c n0 Q h k n (mkF m (pc + 2) Ls (.int v :: st))) : Wk W p l e R s m args below meth c n0 Q h k n (mkF m pc Ls st) :=
  Wk.stZ C (fun X hZ ho eT => ⟨_, X, eT, fun t q => X.ldcI C.hx ho (mvT hZ w) rfl (hb C.hby hd) q⟩) H
theorem Wk.ldc2J (C : Cx Z p s m meth c y bytes maxL ret) {index : Nat} {v : Int64} (w : (Cond.constantLong y.cls index v).before a0 Z = true) {pc : Nat} {Ls : Array Slot} {st : List Value} (hd : decode bytes pc = .ok (.ldc2_w index, 3))
    (H : Wk W p l e R s m args below meth c n0 Q h k n (mkF m (pc + 3) Ls (.long v :: st))) : Wk W p l e R s m args below meth c n0 Q h k n (mkF m pc Ls st) :=
  Wk.stZ C (fun X hZ ho eT => ⟨_, X, eT, fun t q => X.ldc2J C.hx ho (mvT hZ w) rfl (hb C.hby hd) q⟩) H
theorem Wk.getS (C : Cx Z p s m meth c y bytes maxL ret) {O nm d : String} {index : Nat} (w : (Cond.fieldLink y.cls index O nm d).before a0 Z = true) {v : Value} (F : Sta Z h O nm d v) {pc : Nat} {Ls : Array Slot} {st : List Value} (hd : decode bytes pc = .ok (.getstatic index, 3))
    (H : Wk W p l e R s m args below meth c n0 Q h k n (mkF m (pc + 3) Ls (v :: st))) : Wk W p l e R s m args below meth c n0 Q h k n (mkF m pc Ls st) :=
  Wk.stZ C (fun X hZ ho eT => Jvm.RoadKit.getS (host := "") X C.hx hZ ho w Via.refl eT F (g := mkF m pc Ls st) rfl (hb C.hby hd)) H
theorem Wk.getF (C : Cx Z p s m meth c y bytes maxL ret) {R0 O nm d : String} {index : Nat} (w : (Cond.fieldLink y.cls index R0 nm d).before a0 Z = true) (via : Via Z R0 O nm d) {a : Addr} {v : Value} (F : Fld Z h a O nm d v) {pc : Nat} {Ls : Array Slot} {st : List Value} (hd : decode bytes pc = .ok (.getfield index, 3))
    (H : Wk W p l e R s m args below meth c n0 Q h k n (mkF m (pc + 3) Ls (v :: st))) : Wk W p l e R s m args below meth c n0 Q h k n (mkF m pc Ls (.ref a :: st)) :=
  Wk.stZ C (fun X hZ ho eT => Jvm.RoadKit.getF (host := "") X C.hx hZ ho (Or.inl w) via eT F (g := mkF m pc Ls (.ref a :: st)) rfl rfl (hb C.hby hd)) H
theorem Wk.putF (C : Cx Z p s m meth c y bytes maxL ret) {R0 O nm d K : String} {index kk : Nat} {ty : FieldType} (w : (Cond.fieldLink y.cls index R0 nm d).before a0 Z = true) (via : Via Z R0 O nm d) {a : Addr} {v v' old : Value} (F : Fld Z h a O nm d old) (E : Exa Z h a K)
    (L : (Cond.lays K O nm d).before a0 Z = true ∨ ((Cond.laysFinal K O nm d).before a0 Z = true ∧ y.cls = O ∧ y.name = "<init>")) (wi : (Cond.instantiable K kk).before a0 Z = true) (hty : parseFieldDescriptor d = some ty) (hn : narrow ty v = v') (hf : fits ty v' = true) (ge : n0 ≤ a)
    {pc : Nat} {Ls : Array Slot} {st : List Value} (hd : decode bytes pc = .ok (.putfield index, 3))
    (H : ∀ h', Wr h h' a (Jvm.RoadKit.slotOf Z O nm d) v' → Wk W p l e R s m args below meth c n0 Q h' k n (mkF m (pc + 3) Ls st)) : Wk W p l e R s m args below meth c n0 Q h k n (mkF m pc Ls (v :: .ref a :: st)) :=
  Wk.stW C ge (fun X hZ ho eT => Jvm.RoadKit.putFN X C.hx hZ ho w via eT F E (L.imp id fun q => ⟨q.1, q.2.1, C.hnm.trans q.2.2⟩) wi hty hn hf (g := mkF m pc Ls (v :: .ref a :: st)) rfl rfl (hb C.hby hd)) H
theorem Wk.newO (C : Cx Z p s m meth c y bytes maxL ret) {K : String} {index sz : Nat} (w : (Cond.classLink y.cls index K).before a0 Z = true) (wi : (Cond.instantiable K sz).before a0 Z = true) (wz : (Cond.initialized K).before a0 Z = true) {pc : Nat} {Ls : Array Slot} {st : List Value} (hd : decode bytes pc = .ok (.new index, 3)) (hc : k + 1 ≤ R.cells) (hl : n + sz ≤ R.slots)
    (H : ∀ h' a, a = h.size → Ext h h' → Exa Z h' a K → (∀ {O nm d : String} {ty : FieldType}, Laid Z a0 K O nm d → parseFieldDescriptor d = some ty → Fld Z h' a O nm d (defaultValue ty)) → Wk W p l e R s m args below meth c n0 Q h' (k + 1) (n + sz) (mkF m (pc + 3) Ls (.ref a :: st))) :
    Wk W p l e R s m args below meth c n0 Q h k n (mkF m pc Ls st) := by
  intro T L vm0 X B eT N
  obtain ⟨T', h', X', e', E, A, D, -, st⟩ := Jvm.RoadKit.newO X C.hx (C.wZ B) (C.wo B) w wi wz eT (g := mkF m pc Ls st) rfl (hb C.hby hd) hc hl
  obtain ⟨s₂, o, h1, h2⟩ := H h' _ rfl E A D T' L vm0 X' (B.mono E.1) e' N
  exact ⟨s₂, o, st _ h1, h2⟩
theorem Wk.newP (C : Cx Z p s m meth c y bytes maxL ret) {aty : ArrayType} (w : (Cond.arrayClass (newarray.typeOf aty)).before a0 Z = true) {z : Int32} (hz : ¬ z < 0) {cap : Nat} (hcap : z.toNatClampNeg ≤ cap) (hbig : cap * 8 ≤ 536870912) {pc : Nat} {Ls : Array Slot} {st : List Value} (hd : decode bytes pc = .ok (.newarray aty, 2)) (hc : k + 1 ≤ R.cells) (hl : n + cap ≤ R.slots)
    (H : ∀ h' a cA, a = h.size → Ext h h' → Arr Z h' a (newA cA (newarray.typeOf aty) z) (newarray.typeOf aty) → Wk W p l e R s m args below meth c n0 Q h' (k + 1) (n + cap) (mkF m (pc + 2) Ls (.ref a :: st))) :
    Wk W p l e R s m args below meth c n0 Q h k n (mkF m pc Ls (.int z :: st)) := by
  intro T L vm0 X B eT N
  obtain ⟨T', h', cA, X', e', E, A, st⟩ := Jvm.RoadKit.newP X C.hx (C.wZ B) w eT (g := mkF m pc Ls (.int z :: st)) rfl (hb C.hby hd) rfl hz hcap hbig hc hl
  obtain ⟨s₂, o, h1, h2⟩ := H h' _ cA rfl E A T' L vm0 X' (B.mono E.1) e' N
  exact ⟨s₂, o, st _ h1, h2⟩
theorem Wk.newR (C : Cx Z p s m meth c y bytes maxL ret) {K : String} {index : Nat} (w1 : (Cond.classLink y.cls index K).before a0 Z = true) (w2 : (Cond.arrayOver (.object K)).before a0 Z = true) {z : Int32} (hz : ¬ z < 0) {cap : Nat} (hcap : z.toNatClampNeg ≤ cap) (hbig : cap * 8 ≤ 536870912) {pc : Nat} {Ls : Array Slot} {st : List Value} (hd : decode bytes pc = .ok (.anewarray index, 3)) (hc : k + 1 ≤ R.cells) (hl : n + cap ≤ R.slots)
    (H : ∀ h' a cA, a = h.size → Ext h h' → Arr Z h' a (newA cA (.object K) z) (.object K) → Ovr Z cA K → Wk W p l e R s m args below meth c n0 Q h' (k + 1) (n + cap) (mkF m (pc + 3) Ls (.ref a :: st))) :
    Wk W p l e R s m args below meth c n0 Q h k n (mkF m pc Ls (.int z :: st)) := by
  intro T L vm0 X B eT N
  obtain ⟨T', h', cA, X', e', E, A, O, st⟩ := Jvm.RoadKit.newR X C.hx (C.wZ B) (C.wo B) w1 w2 eT (g := mkF m pc Ls (.int z :: st)) rfl (hb C.hby hd) rfl hz hcap hbig hc hl
  obtain ⟨s₂, o, h1, h2⟩ := H h' _ cA rfl E A O T' L vm0 X' (B.mono E.1) e' N
  exact ⟨s₂, o, st _ h1, h2⟩
theorem Wk.stI (C : Cx Z p s m meth c y bytes maxL ret) {a : Addr} {cl : Cell} (A : Arr Z h a cl .int) {j x : Int32} (hj : ¬ (j < 0 ∨ cl.slots.size ≤ j.toNatClampNeg)) (ge : n0 ≤ a) {pc : Nat} {Ls : Array Slot} {st : List Value} (hd : decode bytes pc = .ok (.iastore, 1))
    (H : ∀ h', Wr h h' a j.toNatClampNeg (.int x) → Wk W p l e R s m args below meth c n0 Q h' k n (mkF m (pc + 1) Ls st)) : Wk W p l e R s m args below meth c n0 Q h k n (mkF m pc Ls (.int x :: .int j :: .ref a :: st)) :=
  Wk.stW C ge (fun X hZ ho eT => Jvm.RoadKit.stI X C.hx hZ eT A hj (g := mkF m pc Ls (.int x :: .int j :: .ref a :: st)) rfl rfl (hb C.hby hd)) H
theorem Wk.stJ (C : Cx Z p s m meth c y bytes maxL ret) {a : Addr} {cl : Cell} (A : Arr Z h a cl .long) {j : Int32} {x : Int64} (hj : ¬ (j < 0 ∨ cl.slots.size ≤ j.toNatClampNeg)) (ge : n0 ≤ a) {pc : Nat} {Ls : Array Slot} {st : List Value} (hd : decode bytes pc = .ok (.lastore, 1))
    (H : ∀ h', Wr h h' a j.toNatClampNeg (.long x) → Wk W p l e R s m args below meth c n0 Q h' k n (mkF m (pc + 1) Ls st)) : Wk W p l e R s m args below meth c n0 Q h k n (mkF m pc Ls (.long x :: .int j :: .ref a :: st)) :=
  Wk.stW C ge (fun X hZ ho eT => Jvm.RoadKit.stJ X C.hx hZ eT A hj (g := mkF m pc Ls (.long x :: .int j :: .ref a :: st)) rfl rfl (hb C.hby hd)) H
theorem Wk.stR (C : Cx Z p s m meth c y bytes maxL ret) {a : Addr} {cl : Cell} {ty : FieldType} (A : Arr Z h a cl ty) {j : Int32} {v : Value} (hj : ¬ (j < 0 ∨ cl.slots.size ≤ j.toNatClampNeg)) (hty : ty.isReference = true) (F : Sto Z h a v) (ge : n0 ≤ a) {pc : Nat} {Ls : Array Slot} {st : List Value} (hd : decode bytes pc = .ok (.aastore, 1))
    (H : ∀ h', Wr h h' a j.toNatClampNeg v → Wk W p l e R s m args below meth c n0 Q h' k n (mkF m (pc + 1) Ls st)) : Wk W p l e R s m args below meth c n0 Q h k n (mkF m pc Ls (v :: .int j :: .ref a :: st)) :=
  Wk.stW C ge (fun X hZ ho eT => Jvm.RoadKit.stR X C.hx hZ eT A hj hty F (g := mkF m pc Ls (v :: .int j :: .ref a :: st)) rfl rfl (hb C.hby hd)) H
theorem Wk.len (C : Cx Z p s m meth c y bytes maxL ret) {a : Addr} {cl : Cell} {ty : FieldType} (A : Arr Z h a cl ty) {pc : Nat} {Ls : Array Slot} {st : List Value} (hd : decode bytes pc = .ok (.arraylength, 1))
    (H : Wk W p l e R s m args below meth c n0 Q h k n (mkF m (pc + 1) Ls (.int cl.slots.size.toInt32 :: st))) : Wk W p l e R s m args below meth c n0 Q h k n (mkF m pc Ls (.ref a :: st)) :=
  Wk.stZ C (fun X hZ ho eT => ⟨_, X, eT, X.arraylength C.hx (by rw [eT]; exact A.1) (State.isArrayOf_alike hZ.alike A.2.1) (g := mkF m pc Ls (.ref a :: st)) rfl rfl (hb C.hby hd)⟩) H
theorem Wk.ldI (C : Cx Z p s m meth c y bytes maxL ret) {a : Addr} {cl : Cell} (A : Arr Z h a cl .int) {j : Int32} {v : Value} (hj : ¬ (j < 0 ∨ cl.slots.size ≤ j.toNatClampNeg)) (hv : cl.slots[j.toNatClampNeg]? = some v) {pc : Nat} {Ls : Array Slot} {st : List Value} (hd : decode bytes pc = .ok (.iaload, 1))
    (H : Wk W p l e R s m args below meth c n0 Q h k n (mkF m (pc + 1) Ls (v :: st))) : Wk W p l e R s m args below meth c n0 Q h k n (mkF m pc Ls (.int j :: .ref a :: st)) :=
  Wk.stZ C (fun X hZ ho eT => ⟨_, X, eT, X.iaload C.hx (by rw [eT]; exact A.1) (State.isArrayOf_alike hZ.alike A.2.1) A.2.2 hj hv (g := mkF m pc Ls (.int j :: .ref a :: st)) rfl rfl (hb C.hby hd)⟩) H
theorem Wk.ldJ (C : Cx Z p s m meth c y bytes maxL ret) {a : Addr} {cl : Cell} (A : Arr Z h a cl .long) {j : Int32} {v : Value} (hj : ¬ (j < 0 ∨ cl.slots.size ≤ j.toNatClampNeg)) (hv : cl.slots[j.toNatClampNeg]? = some v) {pc : Nat} {Ls : Array Slot} {st : List Value} (hd : decode bytes pc = .ok (.laload, 1))
    (H : Wk W p l e R s m args below meth c n0 Q h k n (mkF m (pc + 1) Ls (v :: st))) : Wk W p l e R s m args below meth c n0 Q h k n (mkF m pc Ls (.int j :: .ref a :: st)) :=
  Wk.stZ C (fun X hZ ho eT => ⟨_, X, eT, X.laload C.hx (by rw [eT]; exact A.1) (State.isArrayOf_alike hZ.alike A.2.1) A.2.2 hj hv (g := mkF m pc Ls (.int j :: .ref a :: st)) rfl rfl (hb C.hby hd)⟩) H
theorem Wk.ldR (C : Cx Z p s m meth c y bytes maxL ret) {a : Addr} {cl : Cell} {ty : FieldType} (A : Arr Z h a cl ty) (hty : ty.isReference = true) {j : Int32} {v : Value} (hj : ¬ (j < 0 ∨ cl.slots.size ≤ j.toNatClampNeg)) (hv : cl.slots[j.toNatClampNeg]? = some v) {pc : Nat} {Ls : Array Slot} {st : List Value} (hd : decode bytes pc = .ok (.aaload, 1))
    (H : Wk W p l e R s m args below meth c n0 Q h k n (mkF m (pc + 1) Ls (v :: st))) : Wk W p l e R s m args below meth c n0 Q h k n (mkF m pc Ls (.int j :: .ref a :: st)) :=
  Wk.stZ C (fun X hZ ho eT => ⟨_, X, eT, X.aaload C.hx (by rw [eT]; exact A.1) (State.isArrayOf_alike hZ.alike A.2.1) hty A.2.2 hj hv (g := mkF m pc Ls (.int j :: .ref a :: st)) rfl rfl (hb C.hby hd)⟩) H
theorem Wk.ldZ (C : Cx Z p s m meth c y bytes maxL ret) {a : Addr} {cl : Cell} (A : Arr Z h a cl .boolean) {j : Int32} {v : Value} (hj : ¬ (j < 0 ∨ cl.slots.size ≤ j.toNatClampNeg)) (hv : cl.slots[j.toNatClampNeg]? = some v) {pc : Nat} {Ls : Array Slot} {st : List Value} (hd : decode bytes pc = .ok (.baload, 1))
    (H : Wk W p l e R s m args below meth c n0 Q h k n (mkF m (pc + 1) Ls (v :: st))) : Wk W p l e R s m args below meth c n0 Q h k n (mkF m pc Ls (.int j :: .ref a :: st)) :=
  Wk.stZ C (fun X hZ ho eT => ⟨_, X, eT, X.baloadBooleans C.hx (by rw [eT]; exact A.1) (State.isArrayOf_alike hZ.alike A.2.1) A.2.2 hj hv (g := mkF m pc Ls (.int j :: .ref a :: st)) rfl rfl (hb C.hby hd)⟩) H
theorem Wk.stZb (C : Cx Z p s m meth c y bytes maxL ret) {a : Addr} {cl : Cell} (A : Arr Z h a cl .boolean) {j x : Int32} (hj : ¬ (j < 0 ∨ cl.slots.size ≤ j.toNatClampNeg)) (ge : n0 ≤ a) {pc : Nat} {Ls : Array Slot} {st : List Value} (hd : decode bytes pc = .ok (.bastore, 1))
    (H : ∀ h', Wr h h' a j.toNatClampNeg (.int (nar .boolean x)) → Wk W p l e R s m args below meth c n0 Q h' k n (mkF m (pc + 1) Ls st)) : Wk W p l e R s m args below meth c n0 Q h k n (mkF m pc Ls (.int x :: .int j :: .ref a :: st)) :=
  Wk.stW C ge (fun X hZ ho eT => Jvm.RoadKit.stZ X C.hx hZ eT A hj (g := mkF m pc Ls (.int x :: .int j :: .ref a :: st)) rfl rfl (hb C.hby hd)) H
theorem Wk.stB (C : Cx Z p s m meth c y bytes maxL ret) {a : Addr} {cl : Cell} (A : Arr Z h a cl .byte) {j x : Int32} (hj : ¬ (j < 0 ∨ cl.slots.size ≤ j.toNatClampNeg)) (ge : n0 ≤ a) {pc : Nat} {Ls : Array Slot} {st : List Value} (hd : decode bytes pc = .ok (.bastore, 1))
    (H : ∀ h', Wr h h' a j.toNatClampNeg (.int (nar .byte x)) → Wk W p l e R s m args below meth c n0 Q h' k n (mkF m (pc + 1) Ls st)) : Wk W p l e R s m args below meth c n0 Q h k n (mkF m pc Ls (.int x :: .int j :: .ref a :: st)) :=
  Wk.stW C ge (fun X hZ ho eT => Jvm.RoadKit.stB X C.hx hZ eT A hj (g := mkF m pc Ls (.int x :: .int j :: .ref a :: st)) rfl rfl (hb C.hby hd)) H
theorem Wk.stC (C : Cx Z p s m meth c y bytes maxL ret) {a : Addr} {cl : Cell} (A : Arr Z h a cl .char) {j x : Int32} (hj : ¬ (j < 0 ∨ cl.slots.size ≤ j.toNatClampNeg)) (ge : n0 ≤ a) {pc : Nat} {Ls : Array Slot} {st : List Value} (hd : decode bytes pc = .ok (.castore, 1))
    (H : ∀ h', Wr h h' a j.toNatClampNeg (.int (nar .char x)) → Wk W p l e R s m args below meth c n0 Q h' k n (mkF m (pc + 1) Ls st)) : Wk W p l e R s m args below meth c n0 Q h k n (mkF m pc Ls (.int x :: .int j :: .ref a :: st)) :=
  Wk.stW C ge (fun X hZ ho eT => Jvm.RoadKit.stC X C.hx hZ eT A hj (g := mkF m pc Ls (.int x :: .int j :: .ref a :: st)) rfl rfl (hb C.hby hd)) H
theorem Wk.initO (C : Cx Z p s m meth c y bytes maxL ret) {index : Nat} (w1 : (Cond.methodLink y.cls index Lib.objectInit).before a0 Z = true) (w2 : (Cond.instanceMethod Lib.objectInit).before a0 Z = true) (w3 : (Cond.code Lib.objectInit ⟨#[0xb1]⟩ 1 none).before a0 Z = true) {a : Addr} {w : Nat} {pc : Nat} {Ls : Array Slot} {st : List Value} (hls : Ls.size = maxL) (hd : decode bytes pc = .ok (.invokespecial index, 3)) (hf : 1 ≤ R.frames) (hw : (st.map fun v => v.category).sum ≤ w) (hl : w + 12 ≤ R.locals)
    (H : Wk W p l e R s m args below meth c n0 Q h k n (mkF m (pc + 3) Ls st)) : Wk W p l e R s m args below meth c n0 Q h k n (mkF m pc Ls (.ref a :: st)) :=
  Wk.stZ C (fun X hZ ho eT => Jvm.RoadKit.initO X C.hx hZ ho w1 w2 w3 eT (g := mkF m pc Ls (.ref a :: st)) rfl (hls.trans C.hml.symm) rfl (hb C.hby hd) hf (W := w) (by show 2 * 0 + _ ≤ _; omega) hl) H
theorem Wk.retV (C : Cx Z p s m meth c y bytes maxL ret) {pc : Nat} {Ls : Array Slot} {w : Value} {t : FieldType} {i : Instr} {rest : List Value} (ht : ret = some t) (hn : narrow t w = w)
    (hi : (i = .ireturn ∧ (t = .int ∨ t = .boolean ∨ t = .byte ∨ t = .char ∨ t = .short) ∧ ∃ z, w = .int z) ∨ (i = .lreturn ∧ t = .long ∧ ∃ z, w = .long z) ∨ (i = .dreturn ∧ t = .double ∧ ∃ z, w = .double z) ∨ (i = .freturn ∧ t = .float ∧ ∃ z, w = .float z) ∨ (i = .areturn ∧ t.isReference = true ∧ w.isRef = true))
    (hd : decode bytes pc = .ok (i, 1)) (hk : k ≤ R.cells) (hs : n ≤ R.slots) (hq : Q (some w) h) : Wk W p l e R s m args below meth c n0 Q h k n (mkF m pc Ls (w :: rest)) := by
  intro T L vm0 X B eT N
  have hlk := C.hlk
  have hv : meth.sig.returnType = none → (some w : Option Value) = none := fun h => by rw [C.hret, ht] at h; cases h
  cases W
  · cases (B : vm0 = s.vm)
    obtain ⟨fs, hr, hrun, hended, hW, hsame⟩ := Stand.leave (s := s) X (v := some w) hv hlk
    refine ⟨_, _, retOut X C.hx (C.hret.trans ht) hn hi (hb C.hby hd) hr, hrun, hended, _, L, rfl, ⟨?_, N⟩, ⟨_, rfl⟩, hW, hsame.mono hk hs⟩
    show Q (some w) T.heap
    rw [eT]; exact hq
  · obtain ⟨k0, hS, hk0⟩ := (B : ∃ k0, s.Since vm0 k0 ∧ k0 ≤ h.size)
    obtain ⟨fs, hr, hrun, hended, hE⟩ := X.leaveW hS (by rw [eT]; exact hk0) (v := some w) hv hlk
    refine ⟨_, _, retOut X C.hx (C.hret.trans ht) hn hi (hb C.hby hd) hr, hrun, hended, _, L, rfl, ⟨?_, N⟩, hE.1, hE.2.1, hE.2.2.1, hE.2.2.2.mono hk hs⟩
    show Q (some w) T.heap
    rw [eT]; exact hq
theorem Wk.retN0 (C : Cx Z p s m meth c y bytes maxL ret) {pc : Nat} {Ls : Array Slot} (ht : ret = none) (hd : decode bytes pc = .ok (.return_, 1)) (hk : k ≤ R.cells) (hs : n ≤ R.slots) (hq : Q none h) : Wk W p l e R s m args below meth c n0 Q h k n (mkF m pc Ls []) := by
  intro T L vm0 X B eT N
  have hlk := C.hlk
  have hv : meth.sig.returnType = none → (none : Option Value) = none := fun _ => rfl
  cases W
  · cases (B : vm0 = s.vm)
    obtain ⟨fs, hr, hrun, hended, hW, hsame⟩ := Stand.leave (s := s) X (v := none) hv hlk
    refine ⟨_, _, X.returnOut C.hx (C.hret.trans ht) (hb C.hby hd) hr, hrun, hended, _, L, rfl, ⟨?_, N⟩, ⟨_, rfl⟩, hW, hsame.mono hk hs⟩
    show Q none T.heap
    rw [eT]; exact hq
  · obtain ⟨k0, hS, hk0⟩ := (B : ∃ k0, s.Since vm0 k0 ∧ k0 ≤ h.size)
    obtain ⟨fs, hr, hrun, hended, hE⟩ := X.leaveW hS (by rw [eT]; exact hk0) (v := none) hv hlk
    refine ⟨_, _, X.returnOut C.hx (C.hret.trans ht) (hb C.hby hd) hr, hrun, hended, _, L, rfl, ⟨?_, N⟩, hE.1, hE.2.1, hE.2.2.1, hE.2.2.2.mono hk hs⟩
    show Q none T.heap
    rw [eT]; exact hq
/-- the three calls, by the callee's contract -/
theorem Wk.callS (C : Cx Z p s m meth c y bytes maxL ret) {z : MethodName} {index : Nat} {bz : ByteArray} {mz : Nat} {rz : Option FieldType} {rm : Room} {asL : List Value} {Qz : Option Value → Heap → Prop}
    (w1 : (Cond.methodLink y.cls index z).before a0 Z = true) (w2 : (Cond.static z).before a0 Z = true) (w3 : (Cond.initialized z.cls).before a0 Z = true) (w4 : (Cond.code z bz mz rz).before a0 Z = true)
    (hz : z.cls ≠ "java/lang/invoke/MethodHandle" ∧ z.cls ≠ "java/lang/invoke/VarHandle") (M : Met W l Z n0 z bz mz rz rm asL.toArray h Qz) {w : Nat} (hf : rm.frames + 1 ≤ R.frames) (hl : w + (mz + 11) + rm.locals ≤ R.locals)
    {ps : List FieldType} {r : Option FieldType} (hlen : parseMethodDescriptor z.desc = some ⟨ps, r⟩) (hps : asL.length = ps.length) {pc : Nat} {Ls : Array Slot} {st rest : List Value} (hls : Ls.size = maxL) (hst : st = asL.reverse ++ rest) (hw : (rest.map fun v => v.category).sum ≤ w)
    (hc : k + rm.cells ≤ R.cells) (hs : n + rm.slots ≤ R.slots) (hd : decode bytes pc = .ok (.invokestatic index, 3))
    (H : ∀ v h', Qz v h' → Wk W p l e R s m args below meth c n0 Q h' (k + rm.cells) (n + rm.slots) (mkF m (pc + 3) Ls (v.toList ++ rest))) : Wk W p l e R s m args below meth c n0 Q h k n (mkF m pc Ls st) := by
  intro T L vm0 X B eT N
  subst hst
  have hZ := C.wZ B
  have ho := C.wo B
  have hw' : 2 * (mkF m pc Ls (asL.reverse ++ rest)).monitorRoom + (rest.map fun v => v.category).sum ≤ w := by show 2 * 0 + _ ≤ _; omega
  cases W
  · obtain ⟨v, vm₁, ⟨T', L', k', n'⟩, -, X', ⟨Lc, hQ, l1, y1, z1⟩, st⟩ := Jvm.LawKit.callS X C.hx ho (mvT hZ w1) (mvT hZ w2) (mvT hZ w3) (mvT hZ w4) hz (backOf (W := w) (Q := fun v h L => Qz v h ∧ Fr n0 L) (M []) hZ w4 w3 hf hl) (g := mkF m pc Ls (asL.reverse ++ rest)) rfl (hls.trans C.hml.symm) (argsL := asL) (rest := rest) (lenOf hlen hps) rfl hw' (hb C.hby hd) (fun _ _ => ⟨rfl, eT, hc, hs⟩)
    dsimp only [Pt.U, Pt.locs, Pt.cells, Pt.slots] at X' l1 y1 z1 st hQ
    subst l1 y1 z1
    obtain ⟨s₂, o, h1, h2⟩ := H v T'.heap hQ.1 T' _ vm0 X' (B : vm0 = s.vm) rfl (N.app hQ.2)
    exact ⟨s₂, o, st _ h1, h2⟩
  · obtain ⟨v, vm₁, ⟨T', L', k', n'⟩, -, X', hS', hgr, ⟨Lc, hQ, l1, y1, z1⟩, st⟩ := callSS X C.hx ho (mvT hZ w1) (mvT hZ w2) (mvT hZ w3) (mvT hZ w4) hz (backOfS (W := w) (Q := fun v h L => Qz v h ∧ Fr n0 L) (M []) hZ w4 w3 hf hl) (g := mkF m pc Ls (asL.reverse ++ rest)) rfl (hls.trans C.hml.symm) (argsL := asL) (rest := rest) (lenOf hlen hps) rfl hw' (hb C.hby hd) (fun _ _ => ⟨rfl, eT, hc, hs⟩)
    dsimp only [Pt.U, Pt.locs, Pt.cells, Pt.slots] at X' hS' hgr l1 y1 z1 st hQ
    subst l1 y1 z1
    obtain ⟨k0, hS, hk0⟩ := (B : ∃ k0, s.Since vm0 k0 ∧ k0 ≤ h.size)
    obtain ⟨s₂, o, h1, h2⟩ := H v T'.heap hQ.1 T' _ T'.vm X' ⟨_, foldS hS (by rw [eT]; exact hk0) hS' hgr, Nat.le_refl _⟩ rfl (N.app hQ.2)
    exact ⟨s₂, o, st.trans h1, h2⟩
theorem Wk.callI (C : Cx Z p s m meth c y bytes maxL ret) {z : MethodName} {index : Nat} {bz : ByteArray} {mz : Nat} {rm : Room} {a : Addr} {asL : List Value} {Qz : Option Value → Heap → Prop} (hz1 : z.name = "<init>")
    (w1 : (Cond.methodLink y.cls index z).before a0 Z = true) (w2 : (Cond.instanceMethod z).before a0 Z = true) (w3 : (Cond.initialized z.cls).before a0 Z = true) (w4 : (Cond.code z bz mz none).before a0 Z = true)
    (hz : z.cls ≠ "java/lang/invoke/MethodHandle" ∧ z.cls ≠ "java/lang/invoke/VarHandle") (M : Met W l Z n0 z bz mz none rm (.ref a :: asL).toArray h Qz) {w : Nat} (hf : rm.frames + 1 ≤ R.frames) (hl : w + (mz + 11) + rm.locals ≤ R.locals)
    {ps : List FieldType} {r : Option FieldType} (hlen : parseMethodDescriptor z.desc = some ⟨ps, r⟩) (hps : asL.length = ps.length) {pc : Nat} {Ls : Array Slot} {st rest : List Value} (hls : Ls.size = maxL) (hst : st = asL.reverse ++ .ref a :: rest) (hw : (rest.map fun v => v.category).sum ≤ w)
    (hc : k + rm.cells ≤ R.cells) (hs : n + rm.slots ≤ R.slots) (hd : decode bytes pc = .ok (.invokespecial index, 3))
    (H : ∀ v h', Qz v h' → Wk W p l e R s m args below meth c n0 Q h' (k + rm.cells) (n + rm.slots) (mkF m (pc + 3) Ls (v.toList ++ rest))) : Wk W p l e R s m args below meth c n0 Q h k n (mkF m pc Ls st) := by
  intro T L vm0 X B eT N
  subst hst
  have hZ := C.wZ B
  have ho := C.wo B
  have hw' : 2 * (mkF m pc Ls (asL.reverse ++ .ref a :: rest)).monitorRoom + (rest.map fun v => v.category).sum ≤ w := by show 2 * 0 + _ ≤ _; omega
  cases W
  · obtain ⟨v, vm₁, ⟨T', L', k', n'⟩, -, X', ⟨Lc, hQ, l1, y1, z1⟩, st⟩ := X.specialBack C.hx hz1 ho (mvT hZ w1) (mvT hZ w2) (mvT hZ w4) hz (backOf (W := w) (Q := fun v h L => Qz v h ∧ Fr n0 L) (M []) hZ w4 w3 hf hl) (g := mkF m pc Ls (asL.reverse ++ .ref a :: rest)) rfl (hls.trans C.hml.symm) (Steps.refl _) (a := a) (argsL := asL) (rest := rest) (lenOf hlen hps) rfl hw' (hb C.hby hd) (fun _ _ => ⟨rfl, eT, hc, hs⟩)
    dsimp only [Pt.U, Pt.locs, Pt.cells, Pt.slots] at X' l1 y1 z1 st hQ
    subst l1 y1 z1
    obtain ⟨s₂, o, h1, h2⟩ := H v T'.heap hQ.1 T' _ vm0 X' (B : vm0 = s.vm) rfl (N.app hQ.2)
    exact ⟨s₂, o, st.trans h1, h2⟩
  · obtain ⟨v, vm₁, ⟨T', L', k', n'⟩, -, X', hS', hgr, ⟨Lc, hQ, l1, y1, z1⟩, st⟩ := X.specialBackS C.hx hz1 ho (mvT hZ w1) (mvT hZ w2) (mvT hZ w4) hz (backOfS (W := w) (Q := fun v h L => Qz v h ∧ Fr n0 L) (M []) hZ w4 w3 hf hl) (g := mkF m pc Ls (asL.reverse ++ .ref a :: rest)) rfl (hls.trans C.hml.symm) (Steps.refl _) (a := a) (argsL := asL) (rest := rest) (lenOf hlen hps) rfl hw' (hb C.hby hd) (fun _ _ => ⟨rfl, eT, hc, hs⟩)
    dsimp only [Pt.U, Pt.locs, Pt.cells, Pt.slots] at X' hS' hgr l1 y1 z1 st hQ
    subst l1 y1 z1
    obtain ⟨k0, hS, hk0⟩ := (B : ∃ k0, s.Since vm0 k0 ∧ k0 ≤ h.size)
    obtain ⟨s₂, o, h1, h2⟩ := H v T'.heap hQ.1 T' _ T'.vm X' ⟨_, foldS hS (by rw [eT]; exact hk0) hS' hgr, Nat.le_refl _⟩ rfl (N.app hQ.2)
    exact ⟨s₂, o, st.trans h1, h2⟩
theorem Wk.callV (C : Cx Z p s m meth c y bytes maxL ret) {x z : MethodName} {K : String} {index : Nat} {bz : ByteArray} {mz : Nat} {rz : Option FieldType} {rm : Room} {a : Addr} {asL : List Value} {Qz : Option Value → Heap → Prop}
    (w1 : (Cond.methodLink y.cls index x).before a0 Z = true) (w2 : (Cond.declares x).before a0 Z = true) (w5 : (Cond.selects K x z).before a0 Z = true) (w6 : (Cond.instanceMethod z).before a0 Z = true) (w3 : (Cond.initialized z.cls).before a0 Z = true) (w4 : (Cond.code z bz mz rz).before a0 Z = true)
    (hz : x.cls ≠ "java/lang/invoke/MethodHandle" ∧ x.cls ≠ "java/lang/invoke/VarHandle") (hnf : ∀ s' : State, Z.Warmed39 s'.vm → NotFace s' x) (E : Exa Z h a K) (M : Met W l Z n0 z bz mz rz rm (.ref a :: asL).toArray h Qz) {w : Nat} (hf : rm.frames + 1 ≤ R.frames) (hl : w + (mz + 11) + rm.locals ≤ R.locals)
    {ps : List FieldType} {r : Option FieldType} (hlen : parseMethodDescriptor x.desc = some ⟨ps, r⟩) (hps : asL.length = ps.length) {pc : Nat} {Ls : Array Slot} {st rest : List Value} (hls : Ls.size = maxL) (hst : st = asL.reverse ++ .ref a :: rest) (hw : (rest.map fun v => v.category).sum ≤ w)
    (hc : k + rm.cells ≤ R.cells) (hs : n + rm.slots ≤ R.slots) (hd : decode bytes pc = .ok (.invokevirtual index, 3))
    (H : ∀ v h', Qz v h' → Wk W p l e R s m args below meth c n0 Q h' (k + rm.cells) (n + rm.slots) (mkF m (pc + 3) Ls (v.toList ++ rest))) : Wk W p l e R s m args below meth c n0 Q h k n (mkF m pc Ls st) := by
  intro T L vm0 X B eT N
  subst hst
  have hZ := C.wZ B
  have ho := C.wo B
  have hw' : 2 * (mkF m pc Ls (asL.reverse ++ .ref a :: rest)).monitorRoom + (rest.map fun v => v.category).sum ≤ w := by show 2 * 0 + _ ≤ _; omega
  obtain ⟨cq, kq, qa, qb, qc⟩ := isOf hZ eT E
  cases W
  · obtain ⟨v, vm₁, ⟨T', L', k', n'⟩, -, X', ⟨Lc, hQ, l1, y1, z1⟩, st⟩ := X.virtualBack C.hx (y := x) (z := z) ho (mvT hZ w1) (mvT hZ w2) (hnf _ hZ) (mvT hZ w5) (mvT hZ w6) hz (backOf (W := w) (Q := fun v h L => Qz v h ∧ Fr n0 L) (M []) hZ w4 w3 hf hl) qa qc (g := mkF m pc Ls (asL.reverse ++ .ref a :: rest)) rfl (hls.trans C.hml.symm) (Steps.refl _) (argsL := asL) (rest := rest) (lenOf hlen hps) rfl hw' (hb C.hby hd) (fun _ _ => ⟨rfl, eT, hc, hs⟩)
    dsimp only [Pt.U, Pt.locs, Pt.cells, Pt.slots] at X' l1 y1 z1 st hQ
    subst l1 y1 z1
    obtain ⟨s₂, o, h1, h2⟩ := H v T'.heap hQ.1 T' _ vm0 X' (B : vm0 = s.vm) rfl (N.app hQ.2)
    exact ⟨s₂, o, st.trans h1, h2⟩
  · obtain ⟨v, vm₁, ⟨T', L', k', n'⟩, -, X', hS', hgr, ⟨Lc, hQ, l1, y1, z1⟩, st⟩ := X.virtualBackS C.hx (y := x) (z := z) ho (mvT hZ w1) (mvT hZ w2) (hnf _ hZ) (mvT hZ w5) (mvT hZ w6) hz (backOfS (W := w) (Q := fun v h L => Qz v h ∧ Fr n0 L) (M []) hZ w4 w3 hf hl) qa qc (g := mkF m pc Ls (asL.reverse ++ .ref a :: rest)) rfl (hls.trans C.hml.symm) (Steps.refl _) (argsL := asL) (rest := rest) (lenOf hlen hps) rfl hw' (hb C.hby hd) (fun _ _ => ⟨rfl, eT, hc, hs⟩)
    dsimp only [Pt.U, Pt.locs, Pt.cells, Pt.slots] at X' hS' hgr l1 y1 z1 st hQ
    subst l1 y1 z1
    obtain ⟨k0, hS, hk0⟩ := (B : ∃ k0, s.Since vm0 k0 ∧ k0 ≤ h.size)
    obtain ⟨s₂, o, h1, h2⟩ := H v T'.heap hQ.1 T' _ T'.vm X' ⟨_, foldS hS (by rw [eT]; exact hk0) hS' hgr, Nat.le_refl _⟩ rfl (N.app hQ.2)
    exact ⟨s₂, o, st.trans h1, h2⟩
theorem Wk.callU (C : Cx Z p s m meth c y bytes maxL ret) {x z : MethodName} {K owner : String} {index : Nat} {bz : ByteArray} {mz : Nat} {rz : Option FieldType} {rm : Room} {a : Addr} {asL : List Value} {Qz : Option Value → Heap → Prop}
    (w1 : (Cond.methodLink y.cls index x).before a0 Z = true) (w7 : (Cond.sameMethod x.cls owner x.name x.desc).before a0 Z = true) (w2 : (Cond.declares ⟨owner, x.name, x.desc⟩).before a0 Z = true) (w5 : (Cond.selects K x z).before a0 Z = true) (w6 : (Cond.instanceMethod z).before a0 Z = true) (w3 : (Cond.initialized z.cls).before a0 Z = true) (w4 : (Cond.code z bz mz rz).before a0 Z = true)
    (hz : owner ≠ "java/lang/invoke/MethodHandle" ∧ owner ≠ "java/lang/invoke/VarHandle") (E : Exa Z h a K) (M : Met W l Z n0 z bz mz rz rm (.ref a :: asL).toArray h Qz) {w : Nat} (hf : rm.frames + 1 ≤ R.frames) (hl : w + (mz + 11) + rm.locals ≤ R.locals)
    {ps : List FieldType} {r : Option FieldType} (hlen : parseMethodDescriptor x.desc = some ⟨ps, r⟩) (hps : asL.length = ps.length) {pc : Nat} {Ls : Array Slot} {st rest : List Value} (hls : Ls.size = maxL) (hst : st = asL.reverse ++ .ref a :: rest) (hw : (rest.map fun v => v.category).sum ≤ w)
    (hc : k + rm.cells ≤ R.cells) (hs : n + rm.slots ≤ R.slots) (hd : decode bytes pc = .ok (.invokevirtual index, 3))
    (H : ∀ v h', Qz v h' → Wk W p l e R s m args below meth c n0 Q h' (k + rm.cells) (n + rm.slots) (mkF m (pc + 3) Ls (v.toList ++ rest))) : Wk W p l e R s m args below meth c n0 Q h k n (mkF m pc Ls st) := by
  intro T L vm0 X B eT N
  subst hst
  have hZ := C.wZ B
  have ho := C.wo B
  have hw' : 2 * (mkF m pc Ls (asL.reverse ++ .ref a :: rest)).monitorRoom + (rest.map fun v => v.category).sum ≤ w := by show 2 * 0 + _ ≤ _; omega
  obtain ⟨cq, kq, qa, qb, qc⟩ := isOf hZ eT E
  cases W
  · obtain ⟨v, vm₁, ⟨T', L', k', n'⟩, -, X', ⟨Lc, hQ, l1, y1, z1⟩, st⟩ := X.virtualBackUp C.hx (x := x) (y := z) ho (mvT hZ w1) (mvT hZ w7) (mvT hZ w2) hz (mvT hZ w5) (mvT hZ w6) (backOf (W := w) (Q := fun v h L => Qz v h ∧ Fr n0 L) (M []) hZ w4 w3 hf hl) qa qc (g := mkF m pc Ls (asL.reverse ++ .ref a :: rest)) rfl (hls.trans C.hml.symm) (Steps.refl _) (argsL := asL) (rest := rest) (lenOf hlen hps) rfl hw' (hb C.hby hd) (fun _ _ => ⟨rfl, eT, hc, hs⟩)
    dsimp only [Pt.U, Pt.locs, Pt.cells, Pt.slots] at X' l1 y1 z1 st hQ
    subst l1 y1 z1
    obtain ⟨s₂, o, h1, h2⟩ := H v T'.heap hQ.1 T' _ vm0 X' (B : vm0 = s.vm) rfl (N.app hQ.2)
    exact ⟨s₂, o, st.trans h1, h2⟩
  · obtain ⟨v, vm₁, ⟨T', L', k', n'⟩, -, X', hS', hgr, ⟨Lc, hQ, l1, y1, z1⟩, st⟩ := X.virtualBackUpS C.hx (x := x) (y := z) ho (mvT hZ w1) (mvT hZ w7) (mvT hZ w2) hz (mvT hZ w5) (mvT hZ w6) (backOfS (W := w) (Q := fun v h L => Qz v h ∧ Fr n0 L) (M []) hZ w4 w3 hf hl) qa qc (g := mkF m pc Ls (asL.reverse ++ .ref a :: rest)) rfl (hls.trans C.hml.symm) (Steps.refl _) (argsL := asL) (rest := rest) (lenOf hlen hps) rfl hw' (hb C.hby hd) (fun _ _ => ⟨rfl, eT, hc, hs⟩)
    dsimp only [Pt.U, Pt.locs, Pt.cells, Pt.slots] at X' hS' hgr l1 y1 z1 st hQ
    subst l1 y1 z1
    obtain ⟨k0, hS, hk0⟩ := (B : ∃ k0, s.Since vm0 k0 ∧ k0 ≤ h.size)
    obtain ⟨s₂, o, h1, h2⟩ := H v T'.heap hQ.1 T' _ T'.vm X' ⟨_, foldS hS (by rw [eT]; exact hk0) hS' hgr, Nat.le_refl _⟩ rfl (N.app hQ.2)
    exact ⟨s₂, o, st.trans h1, h2⟩
theorem Wk.ldcS (C : Cx Z p s m meth c y bytes maxL ret) {index : Nat} {text : String} (w : (Cond.stringLink y.cls index text).before a0 Z = true) (wS : ∀ d ∈ Bundle.stringAtoms, d.before a0 Z = true) {N : Nat} (hn : 4 * text.toList.length ≤ N) (hbig : N ≤ 536870912) {pc : Nat} {Ls : Array Slot} {st : List Value} (hd : decode bytes pc = .ok (.ldc index, 2)) (hc : k + 2 ≤ R.cells) (hl : n + (N + 4) ≤ R.slots)
    (H : ∀ h' a, Ext h h' → Wk true p l e R s m args below meth c n0 Q h' (k + 2) (n + (N + 4)) (mkF m (pc + 2) Ls (.ref a :: st))) : Wk true p l e R s m args below meth c n0 Q h k n (mkF m pc Ls st) := by
  intro T L vm0 X B eT N'
  have hZ := C.wZ B
  have ho := C.wo B
  obtain ⟨k0, hS, hk0⟩ := (B : ∃ k0, s.Since vm0 k0 ∧ k0 ≤ h.size)
  obtain ⟨a, T', h', k1, X', e', E, hS', hk1, -, -, st⟩ := Jvm.RoadKit.ldcS X C.hx hZ ho w wS eT hS hk0 (g := mkF m pc Ls st) rfl (hb C.hby hd) hn hbig hc hl
  obtain ⟨s₂, o, h1, h2⟩ := H h' a E T' L T'.vm X' ⟨k1, hS', hk1⟩ e' N'
  exact ⟨s₂, o, st _ h1, h2⟩
end Rules
theorem ext_trans {h h' h'' : Heap} (E : Ext h h') (E' : Ext h' h'') : Ext h h'' := ⟨Nat.le_trans E.1 E'.1, fun a c q => E'.2 a c (E.2 a c q)⟩
theorem ext_refl (h : Heap) : Ext h h := ⟨Nat.le_refl _, fun _ _ q => q⟩
end Jvm.Own
namespace Jvm.Own
open Jvm Jvm.ClassFile Sem Op Lib Jvm.Free Jvm.Stand Jvm.LawKit Jvm.RoadKit
/-! statics that hold objects, told apart by a field -/
theorem stat_exa {args : Array Value} {s : State} {C n d K : String} (wi : (Cond.initialized C).before args s = true) (wl : (Cond.laysStatic C n d).before args s = true) (hx : (Cond.exactly (Term.static C n d) K).value args s none s [] = some true) :
    ∃ a, (Term.static C n d).eval args s none [] s = some (.ref a) ∧ Sta s s.heap C n d (.ref a) ∧ Exa s s.heap a K := by
  obtain ⟨a, ev⟩ := exa_v hx
  exact ⟨a, ev, Sta.start ev (Or.inr ⟨wi, wl⟩), Exa.start ev hx⟩
theorem fld_int {args : Array Value} {s : State} {t : Term} {a : Addr} {O f d : String} {i : Int32} (ev : t.eval args s none [] s = some (.ref a)) (hq : (Cond.eq (Term.field t O f d) (Term.int i)).value args s none s [] = some true) : Fld s s.heap a O f d (.int i) := by
  refine Fld.start ?_
  obtain ⟨x, y, h1, h2, k1, k2⟩ := cmp_v (Or.inl hq)
  cases (show some (Value.int i) = some y from h2)
  obtain ⟨z, rfl⟩ := k2
  have q := gotT (show (Cond.eq (Term.field t O f d) (Term.int i)).value args s none s [] = some (decide (z = i)) by simp [Cond.value, h1, h2]) hq
  subst q
  rw [fld_at ev] at h1; exact h1
theorem fld_uniq {Z : State} {h : Heap} {a : Addr} {O f d : String} {v w : Value} (F : Fld Z h a O f d v) (G : Fld Z h a O f d w) : v = w := by
  obtain ⟨c1, cf, k, i, fd, h1, h2, -, -, -, -, h7⟩ := F
  obtain ⟨c2, cf', k', i', fd', g1, g2, -, -, -, -, g7⟩ := G
  cases h1.symm.trans g1
  cases h2.symm.trans g2
  exact Option.some.inj (h7.symm.trans g7)
theorem ne_fld {Z : State} {h : Heap} {a b : Addr} {O f d : String} {v w : Value} (F : Fld Z h a O f d v) (G : Fld Z h b O f d w) (q : v ≠ w) : a ≠ b := fun e => by
  subst e; exact q (fld_uniq F G)
theorem mod_range (p k : Int32) (d : Int) (hd : k.toInt = d) (h0 : 0 < d) : 0 ≤ ((p &&& 2147483647) % k).toInt ∧ ((p &&& 2147483647) % k).toInt < d := by
  have h1 := (c_andS p 2147483647).2.2 (by decide)
  have h2 := (c_irem (p &&& 2147483647) k d hd).1 h1
  rw [h2]
  exact ⟨Int.emod_nonneg _ (by omega), Int.emod_lt_of_pos _ h0⟩
theorem mod6 (p : Int32) : (p &&& 2147483647) % 6 = 0 ∨ (p &&& 2147483647) % 6 = 1 ∨ (p &&& 2147483647) % 6 = 2 ∨ (p &&& 2147483647) % 6 = 3 ∨ (p &&& 2147483647) % 6 = 4 ∨ (p &&& 2147483647) % 6 = 5 := by
  have h := mod_range p 6 6 (by decide) (by decide)
  generalize (p &&& 2147483647) % 6 = r at h ⊢
  have q : r.toInt = 0 ∨ r.toInt = 1 ∨ r.toInt = 2 ∨ r.toInt = 3 ∨ r.toInt = 4 ∨ r.toInt = 5 := by omega
  rcases q with q | q | q | q | q | q
  · exact Or.inl (Int32.toInt_inj.mp q)
  · exact Or.inr (Or.inl (Int32.toInt_inj.mp q))
  · exact Or.inr (Or.inr (Or.inl (Int32.toInt_inj.mp q)))
  · exact Or.inr (Or.inr (Or.inr (Or.inl (Int32.toInt_inj.mp q))))
  · exact Or.inr (Or.inr (Or.inr (Or.inr (Or.inl (Int32.toInt_inj.mp q)))))
  · exact Or.inr (Or.inr (Or.inr (Or.inr (Or.inr (Int32.toInt_inj.mp q)))))
theorem mod3 (p : Int32) : (p &&& 2147483647) % 3 = 0 ∨ (p &&& 2147483647) % 3 = 1 ∨ (p &&& 2147483647) % 3 = 2 := by
  have h := mod_range p 3 3 (by decide) (by decide)
  generalize (p &&& 2147483647) % 3 = r at h ⊢
  have q : r.toInt = 0 ∨ r.toInt = 1 ∨ r.toInt = 2 := by omega
  rcases q with q | q | q
  · exact Or.inl (Int32.toInt_inj.mp q)
  · exact Or.inr (Or.inl (Int32.toInt_inj.mp q))
  · exact Or.inr (Or.inr (Int32.toInt_inj.mp q))
end Jvm.Own
namespace Jvm.Own
open Jvm Jvm.ClassFile Sem Op Lib Jvm.Free Jvm.Stand Jvm.LawKit Jvm.RoadKit
/-! an array by what it holds at each place -/
def up {α : Type} (f : Nat → α) (i : Nat) (v : α) : Nat → α := fun k => if k = i then v else f k
theorem up_eq {α : Type} {f : Nat → α} {i k : Nat} {v : α} (q : k = i) : up f i v k = v := by simp [up, q]
theorem up_ne {α : Type} {f : Nat → α} {i k : Nat} {v : α} (q : k ≠ i) : up f i v k = f k := by simp [up, q]
def Fa (Z : State) (h : Heap) (a : Addr) (ty : FieldType) (n : Nat) (f : Nat → Value) : Prop :=
  ∃ c : Cell, Arr Z h a c ty ∧ c.slots.size = n ∧ n < 2 ^ 31 ∧ ∀ i, i < n → c.slots[i]? = some (f i)
/-- .. of objects of the class K -/
def FaO (Z : State) (h : Heap) (a : Addr) (K : String) (n : Nat) (f : Nat → Value) : Prop :=
  ∃ c : Cell, Arr Z h a c (.object K) ∧ Ovr Z c.cls K ∧ c.slots.size = n ∧ n < 2 ^ 31 ∧ ∀ i, i < n → c.slots[i]? = some (f i)
/-- .. of arrays, whose class is named K -/
def FaA (Z : State) (h : Heap) (a : Addr) (ty : FieldType) (K : String) (n : Nat) (f : Nat → Value) : Prop :=
  ∃ c : Cell, Arr Z h a c (.array ty) ∧ OvrA Z c.cls ty K ∧ c.slots.size = n ∧ n < 2 ^ 31 ∧ ∀ i, i < n → c.slots[i]? = some (f i)
section Facts
variable {Z : State} {h h' : Heap} {a b : Addr} {ty : FieldType} {K : String} {n : Nat} {f g : Nat → Value} {sl : Nat} {v : Value} {ws : List Addr}
theorem inb {c : Cell} {j : Int32} (S : c.slots.size = n) (h0 : ¬ j < 0) (hi : j.toNatClampNeg < n) : ¬ (j < 0 ∨ c.slots.size ≤ j.toNatClampNeg) := by
  rintro (q | q)
  · exact h0 q
  · omega
theorem set_at {c : Cell} (S : c.slots.size = n) (H : ∀ i, i < n → c.slots[i]? = some (f i)) (hs : sl < n) : ∀ i, i < n → (c.setSlot sl v).slots[i]? = some (up f sl v i) := fun i hi => by
  by_cases q : i = sl
  · subst q; rw [up_eq rfl]; simp [Cell.setSlot, S, hi]
  · rw [up_ne q, ← H i hi]; exact Array.getElem?_setIfInBounds_ne (Ne.symm q)
theorem new_at {cA : ClassId} {z : Int32} : ∀ i, i < z.toNatClampNeg → (newA cA ty z).slots[i]? = some (defaultValue ty) := fun i hi => by simp [newA, hi]
theorem clamp_lt (z : Int32) : z.toNatClampNeg < 2 ^ 31 := by
  have := Int32.toInt_lt z; simp only [Int32.toNatClampNeg]; omega
theorem Fa.lt (F : Fa Z h a ty n f) : a < h.size := by obtain ⟨c, A, -⟩ := F; exact A.lt
theorem Fa.ext (F : Fa Z h a ty n f) (E : Ext h h') : Fa Z h' a ty n f := by obtain ⟨c, A, r⟩ := F; exact ⟨c, A.ext E, r⟩
theorem Fa.other (F : Fa Z h b ty n f) (W : Wr h h' a sl v) (q : b ≠ a) : Fa Z h' b ty n f := by obtain ⟨c, A, r⟩ := F; exact ⟨c, A.other W q, r⟩
theorem Fa.keep (F : Fa Z h a ty n f) (K : Keep h h' ws) (q : a ∉ ws) : Fa Z h' a ty n f := by obtain ⟨c, A, r⟩ := F; exact ⟨c, ⟨K.2.1 a c A.1 q, A.2⟩, r⟩
theorem Fa.set (F : Fa Z h a ty n f) (W : Wr h h' a sl v) (hs : sl < n) : Fa Z h' a ty n (up f sl v) := by
  obtain ⟨c, A, S, N, H⟩ := F; exact ⟨_, A.same W, (sz_set _ _ _).trans S, N, set_at S H hs⟩
theorem Fa.new {cA : ClassId} {z : Int32} (A : Arr Z h a (newA cA ty z) ty) : Fa Z h a ty z.toNatClampNeg (fun _ => defaultValue ty) := ⟨_, A, sz_new _ _ _, clamp_lt z, new_at⟩
theorem Fa.congr (F : Fa Z h a ty n f) (q : ∀ i, i < n → f i = g i) : Fa Z h a ty n g := by obtain ⟨c, A, S, N, H⟩ := F; exact ⟨c, A, S, N, fun i hi => (H i hi).trans (congrArg some (q i hi))⟩
theorem FaO.lt (F : FaO Z h a K n f) : a < h.size := by obtain ⟨c, A, -⟩ := F; exact A.lt
theorem FaO.ext (F : FaO Z h a K n f) (E : Ext h h') : FaO Z h' a K n f := by obtain ⟨c, A, r⟩ := F; exact ⟨c, A.ext E, r⟩
theorem FaO.other (F : FaO Z h b K n f) (W : Wr h h' a sl v) (q : b ≠ a) : FaO Z h' b K n f := by obtain ⟨c, A, r⟩ := F; exact ⟨c, A.other W q, r⟩
theorem FaO.set (F : FaO Z h a K n f) (W : Wr h h' a sl v) (hs : sl < n) : FaO Z h' a K n (up f sl v) := by
  obtain ⟨c, A, O, S, N, H⟩ := F; exact ⟨_, A.same W, O, (sz_set _ _ _).trans S, N, set_at S H hs⟩
theorem FaO.new {cA : ClassId} {z : Int32} (A : Arr Z h a (newA cA (.object K) z) (.object K)) (O : Ovr Z cA K) : FaO Z h a K z.toNatClampNeg (fun _ => .null) := ⟨_, A, O, sz_new _ _ _, clamp_lt z, new_at⟩
theorem FaO.sto (F : FaO Z h a K n f) {y : Addr} (E : Exa Z h y K) : Sto Z h a (.ref y) := by obtain ⟨c, A, O, -⟩ := F; exact Sto.of A O (Ins.self E)
theorem FaA.lt (F : FaA Z h a ty K n f) : a < h.size := by obtain ⟨c, A, -⟩ := F; exact A.lt
theorem FaA.ext (F : FaA Z h a ty K n f) (E : Ext h h') : FaA Z h' a ty K n f := by obtain ⟨c, A, r⟩ := F; exact ⟨c, A.ext E, r⟩
theorem FaA.other (F : FaA Z h b ty K n f) (W : Wr h h' a sl v) (q : b ≠ a) : FaA Z h' b ty K n f := by obtain ⟨c, A, r⟩ := F; exact ⟨c, A.other W q, r⟩
theorem FaA.keep (F : FaA Z h a ty K n f) (Kp : Keep h h' ws) (q : a ∉ ws) : FaA Z h' a ty K n f := by obtain ⟨c, A, r⟩ := F; exact ⟨c, ⟨Kp.2.1 a c A.1 q, A.2⟩, r⟩
theorem FaA.set (F : FaA Z h a ty K n f) (W : Wr h h' a sl v) (hs : sl < n) : FaA Z h' a ty K n (up f sl v) := by
  obtain ⟨c, A, O, S, N, H⟩ := F; exact ⟨_, A.same W, O, (sz_set _ _ _).trans S, N, set_at S H hs⟩
theorem FaA.new {cA : ClassId} {z : Int32} (A : Arr Z h a (newA cA (.array ty) z) (.array ty)) (O : OvrA Z cA ty K) : FaA Z h a ty K z.toNatClampNeg (fun _ => .null) := ⟨_, A, O, sz_new _ _ _, clamp_lt z, new_at⟩
end Facts
section Rules
variable {W : Bool} {Z : State} {p : Program} {l : Launch} {e : Env} {R : Room} {s : State} {m : MethodId} {args : Array Value} {below : List Frame} {meth : Method} {c : Code} {y : MethodName} {bytes : ByteArray} {maxL : Nat} {ret : Option FieldType} {n0 : Nat} {Q : Option Value → Heap → Prop} {h : Heap} {k n : Nat} {a0 : Array Value}
variable {a : Addr} {ty : FieldType} {K : String} {N : Nat} {f : Nat → Value} {j : Int32} {v : Value} {pc : Nat} {Ls : Array Slot} {st : List Value}
theorem Wk.fLen (C : Cx Z p s m meth c y bytes maxL ret) (F : Fa Z h a ty N f) {z : Int32} (hz : N.toInt32 = z) (hd : decode bytes pc = .ok (.arraylength, 1))
    (H : Wk W p l e R s m args below meth c n0 Q h k n (mkF m (pc + 1) Ls (.int z :: st))) : Wk W p l e R s m args below meth c n0 Q h k n (mkF m pc Ls (.ref a :: st)) := by
  obtain ⟨cl, A, S, -⟩ := F; exact Wk.len C A hd (by rw [S, hz]; exact H)
theorem Wk.fLenA (C : Cx Z p s m meth c y bytes maxL ret) (F : FaA Z h a ty K N f) {z : Int32} (hz : N.toInt32 = z) (hd : decode bytes pc = .ok (.arraylength, 1))
    (H : Wk W p l e R s m args below meth c n0 Q h k n (mkF m (pc + 1) Ls (.int z :: st))) : Wk W p l e R s m args below meth c n0 Q h k n (mkF m pc Ls (.ref a :: st)) := by
  obtain ⟨cl, A, -, S, -⟩ := F; exact Wk.len C A hd (by rw [S, hz]; exact H)
theorem Wk.fLdI (C : Cx Z p s m meth c y bytes maxL ret) (F : Fa Z h a .int N f) {i : Nat} (hj : j.toNatClampNeg = i) (h0 : ¬ j < 0) (hi : i < N) (hv : f i = v) (hd : decode bytes pc = .ok (.iaload, 1))
    (H : Wk W p l e R s m args below meth c n0 Q h k n (mkF m (pc + 1) Ls (v :: st))) : Wk W p l e R s m args below meth c n0 Q h k n (mkF m pc Ls (.int j :: .ref a :: st)) := by
  subst hj
  obtain ⟨cl, A, S, -, Hs⟩ := F; exact Wk.ldI C A (inb S h0 hi) (hv ▸ Hs _ hi) hd H
theorem Wk.fLdJ (C : Cx Z p s m meth c y bytes maxL ret) (F : Fa Z h a .long N f) {i : Nat} (hj : j.toNatClampNeg = i) (h0 : ¬ j < 0) (hi : i < N) (hv : f i = v) (hd : decode bytes pc = .ok (.laload, 1))
    (H : Wk W p l e R s m args below meth c n0 Q h k n (mkF m (pc + 1) Ls (v :: st))) : Wk W p l e R s m args below meth c n0 Q h k n (mkF m pc Ls (.int j :: .ref a :: st)) := by
  subst hj
  obtain ⟨cl, A, S, -, Hs⟩ := F; exact Wk.ldJ C A (inb S h0 hi) (hv ▸ Hs _ hi) hd H
theorem Wk.fLdZ (C : Cx Z p s m meth c y bytes maxL ret) (F : Fa Z h a .boolean N f) {i : Nat} (hj : j.toNatClampNeg = i) (h0 : ¬ j < 0) (hi : i < N) (hv : f i = v) (hd : decode bytes pc = .ok (.baload, 1))
    (H : Wk W p l e R s m args below meth c n0 Q h k n (mkF m (pc + 1) Ls (v :: st))) : Wk W p l e R s m args below meth c n0 Q h k n (mkF m pc Ls (.int j :: .ref a :: st)) := by
  subst hj
  obtain ⟨cl, A, S, -, Hs⟩ := F; exact Wk.ldZ C A (inb S h0 hi) (hv ▸ Hs _ hi) hd H
theorem Wk.fLdO (C : Cx Z p s m meth c y bytes maxL ret) (F : FaO Z h a K N f) {i : Nat} (hj : j.toNatClampNeg = i) (h0 : ¬ j < 0) (hi : i < N) (hv : f i = v) (hd : decode bytes pc = .ok (.aaload, 1))
    (H : Wk W p l e R s m args below meth c n0 Q h k n (mkF m (pc + 1) Ls (v :: st))) : Wk W p l e R s m args below meth c n0 Q h k n (mkF m pc Ls (.int j :: .ref a :: st)) := by
  subst hj
  obtain ⟨cl, A, -, S, -, Hs⟩ := F; exact Wk.ldR C A rfl (inb S h0 hi) (hv ▸ Hs _ hi) hd H
theorem Wk.fLdA (C : Cx Z p s m meth c y bytes maxL ret) (F : FaA Z h a ty K N f) {i : Nat} (hj : j.toNatClampNeg = i) (h0 : ¬ j < 0) (hi : i < N) (hv : f i = v) (hd : decode bytes pc = .ok (.aaload, 1))
    (H : Wk W p l e R s m args below meth c n0 Q h k n (mkF m (pc + 1) Ls (v :: st))) : Wk W p l e R s m args below meth c n0 Q h k n (mkF m pc Ls (.int j :: .ref a :: st)) := by
  subst hj
  obtain ⟨cl, A, -, S, -, Hs⟩ := F; exact Wk.ldR C A rfl (inb S h0 hi) (hv ▸ Hs _ hi) hd H
theorem Wk.fStI (C : Cx Z p s m meth c y bytes maxL ret) (F : Fa Z h a .int N f) {x : Int32} {i : Nat} (hj : j.toNatClampNeg = i) (h0 : ¬ j < 0) (hi : i < N) (ge : n0 ≤ a) (hd : decode bytes pc = .ok (.iastore, 1))
    (H : ∀ h', Wr h h' a i (.int x) → Fa Z h' a .int N (up f i (.int x)) → Wk W p l e R s m args below meth c n0 Q h' k n (mkF m (pc + 1) Ls st)) : Wk W p l e R s m args below meth c n0 Q h k n (mkF m pc Ls (.int x :: .int j :: .ref a :: st)) := by
  subst hj
  obtain ⟨cl, A, S, r⟩ := id F; exact Wk.stI C A (inb S h0 hi) ge hd fun h' Wh => H h' Wh (F.set Wh hi)
theorem Wk.fStJ (C : Cx Z p s m meth c y bytes maxL ret) (F : Fa Z h a .long N f) {x : Int64} {i : Nat} (hj : j.toNatClampNeg = i) (h0 : ¬ j < 0) (hi : i < N) (ge : n0 ≤ a) (hd : decode bytes pc = .ok (.lastore, 1))
    (H : ∀ h', Wr h h' a i (.long x) → Fa Z h' a .long N (up f i (.long x)) → Wk W p l e R s m args below meth c n0 Q h' k n (mkF m (pc + 1) Ls st)) : Wk W p l e R s m args below meth c n0 Q h k n (mkF m pc Ls (.long x :: .int j :: .ref a :: st)) := by
  subst hj
  obtain ⟨cl, A, S, r⟩ := id F; exact Wk.stJ C A (inb S h0 hi) ge hd fun h' Wh => H h' Wh (F.set Wh hi)
theorem Wk.fStZ (C : Cx Z p s m meth c y bytes maxL ret) (F : Fa Z h a .boolean N f) {x x' : Int32} (hx : nar .boolean x = x') {i : Nat} (hj : j.toNatClampNeg = i) (h0 : ¬ j < 0) (hi : i < N) (ge : n0 ≤ a) (hd : decode bytes pc = .ok (.bastore, 1))
    (H : ∀ h', Wr h h' a i (.int x') → Fa Z h' a .boolean N (up f i (.int x')) → Wk W p l e R s m args below meth c n0 Q h' k n (mkF m (pc + 1) Ls st)) : Wk W p l e R s m args below meth c n0 Q h k n (mkF m pc Ls (.int x :: .int j :: .ref a :: st)) := by
  subst hx
  subst hj
  obtain ⟨cl, A, S, r⟩ := id F; exact Wk.stZb C A (inb S h0 hi) ge hd fun h' Wh => H h' Wh (F.set Wh hi)
theorem Wk.fStB (C : Cx Z p s m meth c y bytes maxL ret) (F : Fa Z h a .byte N f) {x x' : Int32} (hx : nar .byte x = x') {i : Nat} (hj : j.toNatClampNeg = i) (h0 : ¬ j < 0) (hi : i < N) (ge : n0 ≤ a) (hd : decode bytes pc = .ok (.bastore, 1))
    (H : ∀ h', Wr h h' a i (.int x') → Fa Z h' a .byte N (up f i (.int x')) → Wk W p l e R s m args below meth c n0 Q h' k n (mkF m (pc + 1) Ls st)) : Wk W p l e R s m args below meth c n0 Q h k n (mkF m pc Ls (.int x :: .int j :: .ref a :: st)) := by
  subst hx
  subst hj
  obtain ⟨cl, A, S, r⟩ := id F; exact Wk.stB C A (inb S h0 hi) ge hd fun h' Wh => H h' Wh (F.set Wh hi)
theorem Wk.fStC (C : Cx Z p s m meth c y bytes maxL ret) (F : Fa Z h a .char N f) {x x' : Int32} (hx : nar .char x = x') {i : Nat} (hj : j.toNatClampNeg = i) (h0 : ¬ j < 0) (hi : i < N) (ge : n0 ≤ a) (hd : decode bytes pc = .ok (.castore, 1))
    (H : ∀ h', Wr h h' a i (.int x') → Fa Z h' a .char N (up f i (.int x')) → Wk W p l e R s m args below meth c n0 Q h' k n (mkF m (pc + 1) Ls st)) : Wk W p l e R s m args below meth c n0 Q h k n (mkF m pc Ls (.int x :: .int j :: .ref a :: st)) := by
  subst hx
  subst hj
  obtain ⟨cl, A, S, r⟩ := id F; exact Wk.stC C A (inb S h0 hi) ge hd fun h' Wh => H h' Wh (F.set Wh hi)
theorem Wk.fStO (C : Cx Z p s m meth c y bytes maxL ret) (F : FaO Z h a K N f) {i : Nat} (hj : j.toNatClampNeg = i) (h0 : ¬ j < 0) (hi : i < N) (So : Sto Z h a v) (ge : n0 ≤ a) (hd : decode bytes pc = .ok (.aastore, 1))
    (H : ∀ h', Wr h h' a i v → FaO Z h' a K N (up f i v) → Wk W p l e R s m args below meth c n0 Q h' k n (mkF m (pc + 1) Ls st)) : Wk W p l e R s m args below meth c n0 Q h k n (mkF m pc Ls (v :: .int j :: .ref a :: st)) := by
  subst hj
  obtain ⟨cl, A, O, S, r⟩ := id F; exact Wk.stR C A (inb S h0 hi) rfl So ge hd fun h' Wh => H h' Wh (F.set Wh hi)
theorem Wk.fStA (C : Cx Z p s m meth c y bytes maxL ret) (F : FaA Z h a ty K N f) {i : Nat} (hj : j.toNatClampNeg = i) (h0 : ¬ j < 0) (hi : i < N) (So : Sto Z h a v) (ge : n0 ≤ a) (hd : decode bytes pc = .ok (.aastore, 1))
    (H : ∀ h', Wr h h' a i v → FaA Z h' a ty K N (up f i v) → Wk W p l e R s m args below meth c n0 Q h' k n (mkF m (pc + 1) Ls st)) : Wk W p l e R s m args below meth c n0 Q h k n (mkF m pc Ls (v :: .int j :: .ref a :: st)) := by
  subst hj
  obtain ⟨cl, A, O, S, r⟩ := id F; exact Wk.stR C A (inb S h0 hi) rfl So ge hd fun h' Wh => H h' Wh (F.set Wh hi)
theorem Wk.fNewP (C : Cx Z p s m meth c y bytes maxL ret) {aty : ArrayType} (w : (Cond.arrayClass (newarray.typeOf aty)).before a0 Z = true) {z : Int32} {dv : Value} {ad : String} (hty : newarray.typeOf aty = ty) (hdv : defaultValue ty = dv) (hN : z.toNatClampNeg = N) (had : "[" ++ (newarray.typeOf aty).toString = ad) (hz : ¬ z < 0) {cap : Nat} (hcap : N ≤ cap) (hbig : cap * 8 ≤ 536870912) (hd : decode bytes pc = .ok (.newarray aty, 2)) (hc : k + 1 ≤ R.cells) (hl : n + cap ≤ R.slots)
    (H : ∀ h' a, a = h.size → Ext h h' → Exa Z h' a ad → Fa Z h' a ty N (fun _ => dv) → Wk W p l e R s m args below meth c n0 Q h' (k + 1) (n + cap) (mkF m (pc + 2) Ls (.ref a :: st))) :
    Wk W p l e R s m args below meth c n0 Q h k n (mkF m pc Ls (.int z :: st)) := by
  intro T L vm0 X B eT Nn
  subst hty hdv hN
  obtain ⟨T', h', cA, X', e', E, A, Ex, st⟩ := Jvm.RoadKit.newPE X C.hx (C.wZ B) w eT (g := mkF m pc Ls (.int z :: st)) rfl (hb C.hby hd) rfl hz hcap hbig hc hl had
  obtain ⟨s₂, o, h1, h2⟩ := H h' _ rfl E Ex (Fa.new A) T' L vm0 X' (B.mono E.1) e' Nn
  exact ⟨s₂, o, st _ h1, h2⟩
theorem Wk.fNewA (C : Cx Z p s m meth c y bytes maxL ret) {index : Nat} {z : Int32} {ad : String} (hK : (FieldType.array ty).toString = K) (w1 : (Cond.classLink y.cls index K).before a0 Z = true) (w2 : (Cond.arrayOver (.array ty)).before a0 Z = true) (hN : z.toNatClampNeg = N) (had : "[" ++ K = ad) (hz : ¬ z < 0) {cap : Nat} (hcap : N ≤ cap) (hbig : cap * 8 ≤ 536870912) (hd : decode bytes pc = .ok (.anewarray index, 3)) (hc : k + 1 ≤ R.cells) (hl : n + cap ≤ R.slots)
    (H : ∀ h' a, a = h.size → Ext h h' → Exa Z h' a ad → FaA Z h' a ty K N (fun _ => .null) → Wk W p l e R s m args below meth c n0 Q h' (k + 1) (n + cap) (mkF m (pc + 3) Ls (.ref a :: st))) :
    Wk W p l e R s m args below meth c n0 Q h k n (mkF m pc Ls (.int z :: st)) := by
  intro T L vm0 X B eT Nn
  subst hN
  obtain ⟨T', h', cA, X', e', E, A, Ex, O, st⟩ := Jvm.RoadKit.newRA X C.hx (C.wZ B) (C.wo B) hK w1 w2 eT (g := mkF m pc Ls (.int z :: st)) rfl (hb C.hby hd) rfl hz hcap hbig hc hl had
  obtain ⟨s₂, o, h1, h2⟩ := H h' _ rfl E Ex (FaA.new A O) T' L vm0 X' (B.mono E.1) e' Nn
  exact ⟨s₂, o, st _ h1, h2⟩
theorem Wk.fNewO (C : Cx Z p s m meth c y bytes maxL ret) {index : Nat} {z : Int32} (w1 : (Cond.classLink y.cls index K).before a0 Z = true) (w2 : (Cond.arrayOver (.object K)).before a0 Z = true) (hN : z.toNatClampNeg = N) (hz : ¬ z < 0) {cap : Nat} (hcap : N ≤ cap) (hbig : cap * 8 ≤ 536870912) (hd : decode bytes pc = .ok (.anewarray index, 3)) (hc : k + 1 ≤ R.cells) (hl : n + cap ≤ R.slots)
    (H : ∀ h' a, a = h.size → Ext h h' → FaO Z h' a K N (fun _ => .null) → Wk W p l e R s m args below meth c n0 Q h' (k + 1) (n + cap) (mkF m (pc + 3) Ls (.ref a :: st))) :
    Wk W p l e R s m args below meth c n0 Q h k n (mkF m pc Ls (.int z :: st)) := by
  subst hN
  exact Wk.newR C w1 w2 hz hcap hbig hd hc hl fun h' a cA g E A O => H h' a g E (FaO.new A O)
theorem FaA.sto {f : Nat → Value} (F : FaA Z h a ty K N f) {b : Addr} (E : Exa Z h b K) : Sto Z h a (.ref b) := by obtain ⟨c, A, O, -⟩ := F; exact Sto.ofVA A rfl O (Ins.self E)
end Rules
end Jvm.Own
namespace Jvm.Own
theorem nm0 {a : Nat} : a ∉ ([] : List Nat) := by simp
theorem nmS {a b : Nat} {ws : List Nat} (h : a ≠ b) (t : a ∉ ws) : a ∉ b :: ws := by simp [h, t]
theorem nv0 {P : Nat → Prop} : ∀ x ∈ ([] : List Nat), P x := fun _ q => nomatch q
theorem nvS {P : Nat → Prop} {b : Nat} {ws : List Nat} (h : P b) (t : ∀ x ∈ ws, P x) : ∀ x ∈ b :: ws, P x := fun x q => (List.mem_cons.mp q).elim (fun e => e ▸ h) (t x)
end Jvm.Own
namespace Jvm.Own
open Jvm Jvm.ClassFile Sem Op Lib Jvm.Free Jvm.Stand Jvm.LawKit Jvm.RoadKit
theorem dupX2 {tb : Tables} [Ours tb] {e : Env} {below : List Frame} {T target : State} {m : MethodId} {c : Code} {g : JFrame} (h : At T m c below) (hx : tb.exec = Jvm.exec) (hg : g.method = m) {x y z : Value} {rest : List Value} (hd : decode c.code g.pc = .ok (.dup_x2, 1)) (hs : g.stack = x :: y :: z :: rest) (hc : x.category = 1) (hc2 : y.category = 1) (hc3 : z.category = 1)
    (hr : Steps tb e below (T.setTop { g with pc := g.pc + 1, stack := x :: y :: z :: x :: rest }) target) : Steps tb e below (T.setTop g) target := by
  subst hg
  jvm_step h [h.top, hx, hd, hs, hc, hc2, hc3, dup_x2.wp_sem]
  exact hr
end Jvm.Own
namespace Jvm.Pilot.@@N@@
open Jvm Jvm.ClassFile Sem Op Lib Jvm.Free Jvm.Stand Jvm.LawKit Jvm.RoadKit Bundle Jvm.Own Jvm.Pilot.@@N@@.Jvm.D
theorem pn_0 : plainName "com/example/understory/understory/RootedTreeChildrenOfPinLaw" = true := by first | (simp [plainName, overriddenIn]; done) | decide +kernel
theorem pn_1 : plainName "com/example/understory/understory/RootedTree" = true := by first | (simp [plainName, overriddenIn]; done) | decide +kernel
theorem pd_0 : parseMethodDescriptor "(I)I" = some ⟨[.int], some .int⟩ := by decide +kernel
theorem pd_1 : parseMethodDescriptor "([I)[[I" = some ⟨[(.array .int)], some (.array (.array .int))⟩ := by decide +kernel
theorem pd_2 : parseMethodDescriptor "([IIIIII)Z" = some ⟨[(.array .int), .int, .int, .int, .int, .int], some .boolean⟩ := by decide +kernel
def cn : List Int32 → Nat → Int32
  | [], _ => 0
  | p :: l, j => if p.toInt = (j : Int) then cn l j + 1 else cn l j
def gk : List Int32 → Nat → Nat → Int32
  | [], _, _ => 0
  | p :: l, j, t => if p.toInt = (j : Int) ∧ t = (cn l j).toNatClampNeg then Int32.ofNat l.length else gk l j t
theorem cn_b (l : List Int32) (j : Nat) (h : l.length ≤ 100) : 0 ≤ (cn l j).toInt ∧ (cn l j).toInt ≤ l.length := by
  induction l with
  | nil => exact ⟨by show (0 : Int) ≤ (0 : Int32).toInt; decide, by show (0 : Int32).toInt ≤ ((0 : Nat) : Int); decide⟩
  | cons p l ih =>
    have h' : l.length + 1 ≤ 100 := h
    obtain ⟨a, b⟩ := ih (by omega)
    simp only [cn, List.length_cons]
    split
    · have e := c_iadd (cn l j) 1
      have e1 : (1 : Int32).toInt = 1 := rfl
      have u1 := Int32.toInt_lt (cn l j + 1); have u2 := Int32.le_toInt (cn l j + 1)
      omega
    · omega
theorem cn_s {p : Int32} {l : List Int32} {j : Nat} (h : l.length ≤ 100) (q : p.toInt = (j : Int)) : (cn (p :: l) j).toInt = (cn l j).toInt + 1 := by
  have b := cn_b l j h
  simp only [cn, q, if_true]
  have e := c_iadd (cn l j) 1
  have e1 : (1 : Int32).toInt = 1 := rfl
  have u1 := Int32.toInt_lt (cn l j + 1); have u2 := Int32.le_toInt (cn l j + 1)
  omega
theorem cn_lt {m l : List Int32} {p : Int32} {j : Nat} (h : (m ++ p :: l).length ≤ 100) (q : p.toInt = (j : Int)) : (cn l j).toNatClampNeg < (cn (m ++ p :: l) j).toNatClampNeg := by
  have hl : l.length ≤ 100 := by simp at h; omega
  have key : (cn l j).toInt < (cn (m ++ p :: l) j).toInt := by
    clear hl
    induction m with
    | nil => have hl : l.length ≤ 100 := by simp at h; omega
             have := cn_s (l := l) hl q; simp only [List.nil_append]; omega
    | cons r m ih =>
      have h' : (m ++ p :: l).length ≤ 100 := by simp at h ⊢; omega
      have i1 := ih h'
      by_cases t : r.toInt = (j : Int)
      · have := cn_s (l := m ++ p :: l) h' t; simp only [List.cons_append]; omega
      · simp only [List.cons_append, cn, t, if_false]; exact i1
  have b := cn_b l j hl
  simp only [Int32.toNatClampNeg]; omega
theorem cn_nn (l : List Int32) (j : Nat) (h : l.length ≤ 100) : ¬ cn l j < 0 := by rw [XT.negI32]; have := cn_b l j h; omega
theorem cn_le {l : List Int32} {j n : Nat} (h : l.length ≤ 100) (q : l.length ≤ n) : (cn l j).toNatClampNeg ≤ n := by have := cn_b l j h; simp only [Int32.toNatClampNeg]; omega
theorem up_cn {p : Int32} {l : List Int32} {P : Nat} (q : p.toInt = (P : Int)) : ∀ j, up (fun j => Value.int (cn l j)) P (.int (cn l P + 1)) j = .int (cn (p :: l) j) := by
  intro j; simp only [up, cn]
  by_cases e : j = P
  · subst e; simp [q]
  · have : ¬ p.toInt = (j : Int) := by omega
    simp [e, this]
theorem no_cn {p : Int32} {l : List Int32} {j : Nat} (q : ¬ p.toInt = (j : Int)) : Value.int (cn l j) = .int (cn (p :: l) j) := by simp only [cn, q, if_false]
theorem up_gk {p : Int32} {l : List Int32} {P : Nat} {k : Int32} (q : p.toInt = (P : Int)) (hk : Int32.ofNat l.length = k) : ∀ t, up (fun t => Value.int (gk l P t)) (cn l P).toNatClampNeg (.int k) t = .int (gk (p :: l) P t) := by
  intro t; subst hk; simp only [up, gk]
  by_cases e : t = (cn l P).toNatClampNeg
  · simp [q, e]
  · simp [e]
theorem no_gk {p : Int32} {l : List Int32} {j t : Nat} (q : ¬ p.toInt = (j : Int)) : Value.int (gk l j t) = .int (gk (p :: l) j t) := by simp only [gk, q, false_and, if_false]
theorem neg_ne {p : Int32} (h : p < 0) (j : Nat) : ¬ p.toInt = (j : Int) := by rw [XT.negI32] at h; omega
theorem pos_nat {p : Int32} (h : ¬ p < 0) : p.toInt = (p.toNatClampNeg : Int) := by rw [XT.negI32] at h; simp only [Int32.toNatClampNeg]; omega
theorem nat4 {p : Int32} (r : -1 ≤ p.toInt ∧ p.toInt ≤ 3) : p.toNatClampNeg < 4 := by simp only [Int32.toNatClampNeg]; omega
theorem four {p : Int32} (h : ¬ p < 0) (r : -1 ≤ p.toInt ∧ p.toInt ≤ 3) : p = 0 ∨ p = 1 ∨ p = 2 ∨ p = 3 := by
  rw [XT.negI32] at h
  have q : p.toInt = 0 ∨ p.toInt = 1 ∨ p.toInt = 2 ∨ p.toInt = 3 := by omega
  rcases q with q | q | q | q
  · exact Or.inl (Int32.toInt_inj.mp q)
  · exact Or.inr (Or.inl (Int32.toInt_inj.mp q))
  · exact Or.inr (Or.inr (Or.inl (Int32.toInt_inj.mp q)))
  · exact Or.inr (Or.inr (Or.inr (Int32.toInt_inj.mp q)))
theorem draw_r (x : Int32) : -1 ≤ ((x &&& (2147483647 : Int32)) % (5 : Int32) - (1 : Int32)).toInt ∧ ((x &&& (2147483647 : Int32)) % (5 : Int32) - (1 : Int32)).toInt ≤ 3 := by
  have h := mod_range x 5 5 (by decide) (by decide)
  have e := c_isub ((x &&& (2147483647 : Int32)) % (5 : Int32)) 1
  have e1 : (1 : Int32).toInt = 1 := rfl
  have u1 := Int32.toInt_lt ((x &&& (2147483647 : Int32)) % (5 : Int32) - (1 : Int32)); have u2 := Int32.le_toInt ((x &&& (2147483647 : Int32)) % (5 : Int32) - (1 : Int32))
  omega
theorem to_yes {p node : Int32} {J : Nat} (hJ : node.toInt = (J : Int)) (h : p = node) : p.toInt = (J : Int) := by rw [h, hJ]
theorem to_no {p node : Int32} {J : Nat} (hJ : node.toInt = (J : Int)) (h : ¬ p = node) : ¬ p.toInt = (J : Int) := fun q => h (Int32.toInt_inj.mp (q.trans hJ.symm))
theorem d1_0 : decode method_3_code 0 = .ok (.iload_n 0, 1) := by decide +kernel
theorem d1_1 : decode method_3_code 1 = .ok (.ldc 23, 2) := by decide +kernel
theorem d1_3 : decode method_3_code 3 = .ok (.iand, 1) := by decide +kernel
theorem d1_4 : decode method_3_code 4 = .ok (.iconst 5, 1) := by decide +kernel
theorem d1_5 : decode method_3_code 5 = .ok (.irem, 1) := by decide +kernel
theorem d1_6 : decode method_3_code 6 = .ok (.iconst 1, 1) := by decide +kernel
theorem d1_7 : decode method_3_code 7 = .ok (.isub, 1) := by decide +kernel
theorem d1_8 : decode method_3_code 8 = .ok (.ireturn, 1) := by decide +kernel
set_option maxRecDepth 65536 in
set_option maxHeartbeats 40000000 in
theorem own_draw (l : Launch) (Z : State) (a0 : Array Value) (hw : ∀ d ∈ tables_1, d.before a0 Z = true) (n0 : Nat) (h0 : Heap) (x : Int32) :
    Met false l Z n0 (⟨"com/example/understory/understory/RootedTreeChildrenOfPinLaw", "draw", "(I)I"⟩ : MethodName) method_3_code 1 (some .int) ({ frames := 0, cells := 0, slots := 0, locals := 0 } : Room) #[(.int x)] h0 (fun v h => v = some (.int ((x &&& (2147483647 : Int32)) % (5 : Int32) - (1 : Int32))) ∧ h0 = h) := by
  refine Met.of pn_0 #[.val (.int x)] (fun m => by first | (simp [entryFrame, mkF, argsToLocals, Value.category]; done) | rfl) ?_
  intro p e s m below meth c C
  refine Wk.st (g' := (mkF m 1 #[.val (.int x)] [(.int x)])) (fun X t q => XS.iloadN X.here C.hx rfl (hb C.hby d1_0) rfl q) ?_
  refine Wk.ldcI C (hw _ (List.mem_of_getElem? (i := 4) rfl)) d1_1 ?_
  show Wk _ p l e _ s m _ below meth c n0 _ h0 0 0 (mkF m 3 #[.val (.int x)] [(.int (2147483647 : Int32)), (.int x)])
  refine Wk.st (g' := (mkF m 4 #[.val (.int x)] [(.int (x &&& (2147483647 : Int32)))])) (fun X t q => XS.iand X.here C.hx rfl (hb C.hby d1_3) rfl q) ?_
  refine Wk.st (g' := (mkF m 5 #[.val (.int x)] [(.int (5 : Int32)), (.int (x &&& (2147483647 : Int32)))])) (fun X t q => XS.iconst X.here C.hx rfl (hb C.hby d1_4) q) ?_
  refine Wk.st (g' := (mkF m 6 #[.val (.int x)] [(.int ((x &&& (2147483647 : Int32)) % (5 : Int32)))])) (fun X t q => iremM X C.hx rfl (hb C.hby d1_5) rfl (by decide) q) ?_
  refine Wk.st (g' := (mkF m 7 #[.val (.int x)] [(.int (1 : Int32)), (.int ((x &&& (2147483647 : Int32)) % (5 : Int32)))])) (fun X t q => XS.iconst X.here C.hx rfl (hb C.hby d1_6) q) ?_
  refine Wk.st (g' := (mkF m 8 #[.val (.int x)] [(.int (((x &&& (2147483647 : Int32)) % (5 : Int32)) - (1 : Int32)))])) (fun X t q => XS.isub X.here C.hx rfl (hb C.hby d1_7) rfl q) ?_
  exact Wk.retV C (t := .int) rfl rfl (Or.inl ⟨rfl, by simp, _, rfl⟩) d1_8 (by decide) (by decide) ⟨rfl, rfl⟩
theorem d2_0 : decode prog_21_method_2_code 0 = .ok (.aload_n 0, 1) := by decide +kernel
theorem d2_1 : decode prog_21_method_2_code 1 = .ok (.arraylength, 1) := by decide +kernel
theorem d2_2 : decode prog_21_method_2_code 2 = .ok (.istore_n 1, 1) := by decide +kernel
theorem d2_3 : decode prog_21_method_2_code 3 = .ok (.iload_n 1, 1) := by decide +kernel
theorem d2_4 : decode prog_21_method_2_code 4 = .ok (.newarray .int, 2) := by decide +kernel
theorem d2_6 : decode prog_21_method_2_code 6 = .ok (.astore_n 2, 1) := by decide +kernel
theorem d2_7 : decode prog_21_method_2_code 7 = .ok (.iconst 0, 1) := by decide +kernel
theorem d2_8 : decode prog_21_method_2_code 8 = .ok (.istore_n 3, 1) := by decide +kernel
theorem d2_9 : decode prog_21_method_2_code 9 = .ok (.iload_n 3, 1) := by decide +kernel
theorem d2_10 : decode prog_21_method_2_code 10 = .ok (.iload_n 1, 1) := by decide +kernel
theorem d2_11 : decode prog_21_method_2_code 11 = .ok (.if_icmp .ge 24, 3) := by decide +kernel
theorem d2_14 : decode prog_21_method_2_code 14 = .ok (.aload_n 0, 1) := by decide +kernel
theorem d2_15 : decode prog_21_method_2_code 15 = .ok (.iload_n 3, 1) := by decide +kernel
theorem d2_16 : decode prog_21_method_2_code 16 = .ok (.iaload, 1) := by decide +kernel
theorem d2_17 : decode prog_21_method_2_code 17 = .ok (.ifCond .lt 12, 3) := by decide +kernel
theorem d2_20 : decode prog_21_method_2_code 20 = .ok (.aload_n 2, 1) := by decide +kernel
theorem d2_21 : decode prog_21_method_2_code 21 = .ok (.aload_n 0, 1) := by decide +kernel
theorem d2_22 : decode prog_21_method_2_code 22 = .ok (.iload_n 3, 1) := by decide +kernel
theorem d2_23 : decode prog_21_method_2_code 23 = .ok (.iaload, 1) := by decide +kernel
theorem d2_24 : decode prog_21_method_2_code 24 = .ok (.dup2, 1) := by decide +kernel
theorem d2_25 : decode prog_21_method_2_code 25 = .ok (.iaload, 1) := by decide +kernel
theorem d2_26 : decode prog_21_method_2_code 26 = .ok (.iconst 1, 1) := by decide +kernel
theorem d2_27 : decode prog_21_method_2_code 27 = .ok (.iadd, 1) := by decide +kernel
theorem d2_28 : decode prog_21_method_2_code 28 = .ok (.iastore, 1) := by decide +kernel
theorem d2_29 : decode prog_21_method_2_code 29 = .ok (.iinc 3 1, 3) := by decide +kernel
theorem d2_32 : decode prog_21_method_2_code 32 = .ok (.goto (-23), 3) := by decide +kernel
theorem d2_35 : decode prog_21_method_2_code 35 = .ok (.iload_n 1, 1) := by decide +kernel
theorem d2_36 : decode prog_21_method_2_code 36 = .ok (.anewarray 30, 3) := by decide +kernel
theorem d2_39 : decode prog_21_method_2_code 39 = .ok (.astore_n 3, 1) := by decide +kernel
theorem d2_40 : decode prog_21_method_2_code 40 = .ok (.iconst 0, 1) := by decide +kernel
theorem d2_41 : decode prog_21_method_2_code 41 = .ok (.istore 4, 2) := by decide +kernel
theorem d2_43 : decode prog_21_method_2_code 43 = .ok (.iload 4, 2) := by decide +kernel
theorem d2_45 : decode prog_21_method_2_code 45 = .ok (.iload_n 1, 1) := by decide +kernel
theorem d2_46 : decode prog_21_method_2_code 46 = .ok (.if_icmp .ge 19, 3) := by decide +kernel
theorem d2_49 : decode prog_21_method_2_code 49 = .ok (.aload_n 3, 1) := by decide +kernel
theorem d2_50 : decode prog_21_method_2_code 50 = .ok (.iload 4, 2) := by decide +kernel
theorem d2_52 : decode prog_21_method_2_code 52 = .ok (.aload_n 2, 1) := by decide +kernel
theorem d2_53 : decode prog_21_method_2_code 53 = .ok (.iload 4, 2) := by decide +kernel
theorem d2_55 : decode prog_21_method_2_code 55 = .ok (.iaload, 1) := by decide +kernel
theorem d2_56 : decode prog_21_method_2_code 56 = .ok (.newarray .int, 2) := by decide +kernel
theorem d2_58 : decode prog_21_method_2_code 58 = .ok (.aastore, 1) := by decide +kernel
theorem d2_59 : decode prog_21_method_2_code 59 = .ok (.iinc 4 1, 3) := by decide +kernel
theorem d2_62 : decode prog_21_method_2_code 62 = .ok (.goto (-19), 3) := by decide +kernel
theorem d2_65 : decode prog_21_method_2_code 65 = .ok (.iload_n 1, 1) := by decide +kernel
theorem d2_66 : decode prog_21_method_2_code 66 = .ok (.newarray .int, 2) := by decide +kernel
theorem d2_68 : decode prog_21_method_2_code 68 = .ok (.astore 4, 2) := by decide +kernel
theorem d2_70 : decode prog_21_method_2_code 70 = .ok (.iconst 0, 1) := by decide +kernel
theorem d2_71 : decode prog_21_method_2_code 71 = .ok (.istore 5, 2) := by decide +kernel
theorem d2_73 : decode prog_21_method_2_code 73 = .ok (.iload 5, 2) := by decide +kernel
theorem d2_75 : decode prog_21_method_2_code 75 = .ok (.iload_n 1, 1) := by decide +kernel
theorem d2_76 : decode prog_21_method_2_code 76 = .ok (.if_icmp .ge 37, 3) := by decide +kernel
theorem d2_79 : decode prog_21_method_2_code 79 = .ok (.aload_n 0, 1) := by decide +kernel
theorem d2_80 : decode prog_21_method_2_code 80 = .ok (.iload 5, 2) := by decide +kernel
theorem d2_82 : decode prog_21_method_2_code 82 = .ok (.iaload, 1) := by decide +kernel
theorem d2_83 : decode prog_21_method_2_code 83 = .ok (.ifCond .lt 24, 3) := by decide +kernel
theorem d2_86 : decode prog_21_method_2_code 86 = .ok (.aload_n 3, 1) := by decide +kernel
theorem d2_87 : decode prog_21_method_2_code 87 = .ok (.aload_n 0, 1) := by decide +kernel
theorem d2_88 : decode prog_21_method_2_code 88 = .ok (.iload 5, 2) := by decide +kernel
theorem d2_90 : decode prog_21_method_2_code 90 = .ok (.iaload, 1) := by decide +kernel
theorem d2_91 : decode prog_21_method_2_code 91 = .ok (.aaload, 1) := by decide +kernel
theorem d2_92 : decode prog_21_method_2_code 92 = .ok (.aload 4, 2) := by decide +kernel
theorem d2_94 : decode prog_21_method_2_code 94 = .ok (.aload_n 0, 1) := by decide +kernel
theorem d2_95 : decode prog_21_method_2_code 95 = .ok (.iload 5, 2) := by decide +kernel
theorem d2_97 : decode prog_21_method_2_code 97 = .ok (.iaload, 1) := by decide +kernel
theorem d2_98 : decode prog_21_method_2_code 98 = .ok (.dup2, 1) := by decide +kernel
theorem d2_99 : decode prog_21_method_2_code 99 = .ok (.iaload, 1) := by decide +kernel
theorem d2_100 : decode prog_21_method_2_code 100 = .ok (.dup_x2, 1) := by decide +kernel
theorem d2_101 : decode prog_21_method_2_code 101 = .ok (.iconst 1, 1) := by decide +kernel
theorem d2_102 : decode prog_21_method_2_code 102 = .ok (.iadd, 1) := by decide +kernel
theorem d2_103 : decode prog_21_method_2_code 103 = .ok (.iastore, 1) := by decide +kernel
theorem d2_104 : decode prog_21_method_2_code 104 = .ok (.iload 5, 2) := by decide +kernel
theorem d2_106 : decode prog_21_method_2_code 106 = .ok (.iastore, 1) := by decide +kernel
theorem d2_107 : decode prog_21_method_2_code 107 = .ok (.iinc 5 1, 3) := by decide +kernel
theorem d2_110 : decode prog_21_method_2_code 110 = .ok (.goto (-37), 3) := by decide +kernel
theorem d2_113 : decode prog_21_method_2_code 113 = .ok (.aload_n 3, 1) := by decide +kernel
theorem d2_114 : decode prog_21_method_2_code 114 = .ok (.areturn, 1) := by decide +kernel
set_option maxRecDepth 65536 in
set_option maxHeartbeats 40000000 in
theorem own_children (l : Launch) (Z : State) (a0 : Array Value) (hw : ∀ d ∈ tables_1, d.before a0 Z = true) (n0 : Nat) (h0 : Heap) (hsz : n0 ≤ h0.size) (a : Addr) (p0 p1 p2 p3 : Int32) (r0 : -1 ≤ p0.toInt ∧ p0.toInt ≤ 3) (r1 : -1 ≤ p1.toInt ∧ p1.toInt ≤ 3) (r2 : -1 ≤ p2.toInt ∧ p2.toInt ≤ 3) (r3 : -1 ≤ p3.toInt ∧ p3.toInt ≤ 3) (PA : Fa Z h0 a .int 4 (up (up (up (up (fun _ => (.int (0 : Int32))) 0 (.int p0)) 1 (.int p1)) 2 (.int p2)) 3 (.int p3))) :
    Met false l Z n0 (⟨"com/example/understory/understory/RootedTree", "childrenOf", "([I)[[I"⟩ : MethodName) prog_21_method_2_code 6 (some (.array (.array .int))) ({ frames := 0, cells := 8, slots := 32, locals := 0 } : Room) #[(.ref a)] h0 (fun v h => ∃ ch c0 c1 c2 c3 : Addr, v = some (.ref ch) ∧ Keep h0 h [] ∧ h0.size ≤ ch ∧ h0.size ≤ c0 ∧ h0.size ≤ c1 ∧ h0.size ≤ c2 ∧ h0.size ≤ c3 ∧ FaA Z h ch .int "[I" 4 (up (up (up (up (fun _ => .null) 0 (.ref c0)) 1 (.ref c1)) 2 (.ref c2)) 3 (.ref c3)) ∧ Fa Z h c0 .int (cn [p3, p2, p1, p0] 0).toNatClampNeg (fun t => (.int (gk [p3, p2, p1, p0] 0 t))) ∧ Fa Z h c1 .int (cn [p3, p2, p1, p0] 1).toNatClampNeg (fun t => (.int (gk [p3, p2, p1, p0] 1 t))) ∧ Fa Z h c2 .int (cn [p3, p2, p1, p0] 2).toNatClampNeg (fun t => (.int (gk [p3, p2, p1, p0] 2 t))) ∧ Fa Z h c3 .int (cn [p3, p2, p1, p0] 3).toNatClampNeg (fun t => (.int (gk [p3, p2, p1, p0] 3 t)))) := by
  refine Met.of pn_1 #[.val (.ref a), .unset, .unset, .unset, .unset, .unset] (fun m => by first | (simp [entryFrame, mkF, argsToLocals, Value.category]; done) | rfl) ?_
  intro p e s m below meth c C
  refine Wk.st (g' := (mkF m 1 #[.val (.ref a), .unset, .unset, .unset, .unset, .unset] [(.ref a)])) (fun X t q => XS.aloadN X.here C.hx rfl (hb C.hby d2_0) rfl rfl q) ?_
  refine Wk.fLen C PA (z := (4 : Int32)) (by decide) d2_1 ?_
  show Wk _ p l e _ s m _ below meth c n0 _ h0 0 0 (mkF m 2 #[.val (.ref a), .unset, .unset, .unset, .unset, .unset] [(.int (4 : Int32))])
  refine Wk.st (g' := (mkF m 3 #[.val (.ref a), .val (.int (4 : Int32)), .unset, .unset, .unset, .unset] [])) (fun X t q => XS.istoreN X.here C.hx rfl (hb C.hby d2_2) rfl (l' := #[.val (.ref a), .val (.int (4 : Int32)), .unset, .unset, .unset, .unset]) rfl q) ?_
  refine Wk.st (g' := (mkF m 4 #[.val (.ref a), .val (.int (4 : Int32)), .unset, .unset, .unset, .unset] [(.int (4 : Int32))])) (fun X t q => XS.iloadN X.here C.hx rfl (hb C.hby d2_3) rfl q) ?_
  refine Wk.fNewP C (hw _ (List.mem_of_getElem? (i := 5) rfl)) (ty := .int) (dv := (.int (0 : Int32))) (N := 4) (ad := "[I") rfl rfl (by decide) (by decide) (by decide) (cap := 4) (by decide) (by decide) d2_4 (by decide) (by decide) ?_
  intro h1 b2 g3 E4 A5 F6
  have ne7 : a ≠ b2 := Nat.ne_of_lt (Nat.lt_of_lt_of_le PA.lt (Nat.le_of_eq g3.symm))
  have ge8 : n0 ≤ b2 := Nat.le_trans hsz (Nat.le_of_eq g3.symm)
  have gz9 : h0.size ≤ b2 := Nat.le_trans (Nat.le_refl h0.size) (Nat.le_of_eq g3.symm)
  have F10 : Fa Z h1 a .int 4 (up (up (up (up (fun _ => (.int (0 : Int32))) 0 (.int p0)) 1 (.int p1)) 2 (.int p2)) 3 (.int p3)) := PA.ext E4
  have sz11 : n0 ≤ h1.size := Nat.le_trans hsz E4.1
  have sy12 : h0.size ≤ h1.size := Nat.le_trans (Nat.le_refl h0.size) E4.1
  have K13 := (Keep.refl h0 []).ext E4
  show Wk _ p l e _ s m _ below meth c n0 _ h1 1 4 (mkF m 6 #[.val (.ref a), .val (.int (4 : Int32)), .unset, .unset, .unset, .unset] [(.ref b2)])
  refine Wk.st (g' := (mkF m 7 #[.val (.ref a), .val (.int (4 : Int32)), .val (.ref b2), .unset, .unset, .unset] [])) (fun X t q => XS.astoreN X.here C.hx rfl (hb C.hby d2_6) rfl rfl (l' := #[.val (.ref a), .val (.int (4 : Int32)), .val (.ref b2), .unset, .unset, .unset]) rfl q) ?_
  refine Wk.st (g' := (mkF m 8 #[.val (.ref a), .val (.int (4 : Int32)), .val (.ref b2), .unset, .unset, .unset] [(.int (0 : Int32))])) (fun X t q => XS.iconst X.here C.hx rfl (hb C.hby d2_7) q) ?_
  refine Wk.st (g' := (mkF m 9 #[.val (.ref a), .val (.int (4 : Int32)), .val (.ref b2), .val (.int (0 : Int32)), .unset, .unset] [])) (fun X t q => XS.istoreN X.here C.hx rfl (hb C.hby d2_8) rfl (l' := #[.val (.ref a), .val (.int (4 : Int32)), .val (.ref b2), .val (.int (0 : Int32)), .unset, .unset]) rfl q) ?_
  have JA4 : ∀ (hA4 : Heap), n0 ≤ hA4.size → h0.size ≤ hA4.size → Keep h0 hA4 [] → Fa Z hA4 a .int 4 (up (up (up (up (fun _ => (.int (0 : Int32))) 0 (.int p0)) 1 (.int p1)) 2 (.int p2)) 3 (.int p3)) → Fa Z hA4 b2 .int 4 (fun j => (.int (cn [p3, p2, p1, p0] j))) → Wk false p l e ({ frames := 0, cells := 8, slots := 32, locals := 0 } : Room) s m #[(.ref a)] below meth c n0 (fun v h => ∃ ch c0 c1 c2 c3 : Addr, v = some (.ref ch) ∧ Keep h0 h [] ∧ h0.size ≤ ch ∧ h0.size ≤ c0 ∧ h0.size ≤ c1 ∧ h0.size ≤ c2 ∧ h0.size ≤ c3 ∧ FaA Z h ch .int "[I" 4 (up (up (up (up (fun _ => .null) 0 (.ref c0)) 1 (.ref c1)) 2 (.ref c2)) 3 (.ref c3)) ∧ Fa Z h c0 .int (cn [p3, p2, p1, p0] 0).toNatClampNeg (fun t => (.int (gk [p3, p2, p1, p0] 0 t))) ∧ Fa Z h c1 .int (cn [p3, p2, p1, p0] 1).toNatClampNeg (fun t => (.int (gk [p3, p2, p1, p0] 1 t))) ∧ Fa Z h c2 .int (cn [p3, p2, p1, p0] 2).toNatClampNeg (fun t => (.int (gk [p3, p2, p1, p0] 2 t))) ∧ Fa Z h c3 .int (cn [p3, p2, p1, p0] 3).toNatClampNeg (fun t => (.int (gk [p3, p2, p1, p0] 3 t)))) hA4 1 4 (mkF m 9 #[.val (.ref a), .val (.int (4 : Int32)), .val (.ref b2), .val (.int (4 : Int32)), .unset, .unset] []) := by
    intro hA4 sz_A4 sz0_A4 K_A4 FA4_0 FA4_1
    refine Wk.st (g' := (mkF m 10 #[.val (.ref a), .val (.int (4 : Int32)), .val (.ref b2), .val (.int (4 : Int32)), .unset, .unset] [(.int (4 : Int32))])) (fun X t q => XS.iloadN X.here C.hx rfl (hb C.hby d2_9) rfl q) ?_
    refine Wk.st (g' := (mkF m 11 #[.val (.ref a), .val (.int (4 : Int32)), .val (.ref b2), .val (.int (4 : Int32)), .unset, .unset] [(.int (4 : Int32)), (.int (4 : Int32))])) (fun X t q => XS.iloadN X.here C.hx rfl (hb C.hby d2_10) rfl q) ?_
    refine Wk.st (g' := (mkF m 35 #[.val (.ref a), .val (.int (4 : Int32)), .val (.ref b2), .val (.int (4 : Int32)), .unset, .unset] [])) (fun X t q => XS.icmpYes X.here C.hx rfl (pc0 := 11) (pc' := 35) rfl (hb C.hby d2_11) rfl (XT.ii_ge_t (by decide)) (by decide) (by decide) q) ?_
    refine Wk.st (g' := (mkF m 36 #[.val (.ref a), .val (.int (4 : Int32)), .val (.ref b2), .val (.int (4 : Int32)), .unset, .unset] [(.int (4 : Int32))])) (fun X t q => XS.iloadN X.here C.hx rfl (hb C.hby d2_35) rfl q) ?_
    refine Wk.fNewA C (ty := .int) (K := "[I") (N := 4) (ad := "[[I") (by decide) (hw _ (List.mem_of_getElem? (i := 10) rfl)) (hw _ (List.mem_of_getElem? (i := 11) rfl)) (by decide) (by decide) (by decide) (cap := 4) (by decide) (by decide) d2_36 (by decide) (by decide) ?_
    intro h14 b15 g16 E17 A18 F19
    have ne20 : a ≠ b15 := Nat.ne_of_lt (Nat.lt_of_lt_of_le FA4_0.lt (Nat.le_of_eq g16.symm))
    have ne21 : b2 ≠ b15 := Nat.ne_of_lt (Nat.lt_of_lt_of_le FA4_1.lt (Nat.le_of_eq g16.symm))
    have ge22 : n0 ≤ b15 := Nat.le_trans sz_A4 (Nat.le_of_eq g16.symm)
    have gz23 : h0.size ≤ b15 := Nat.le_trans sz0_A4 (Nat.le_of_eq g16.symm)
    have F24 : Fa Z h14 a .int 4 (up (up (up (up (fun _ => (.int (0 : Int32))) 0 (.int p0)) 1 (.int p1)) 2 (.int p2)) 3 (.int p3)) := FA4_0.ext E17
    have F25 : Fa Z h14 b2 .int 4 (fun j => (.int (cn [p3, p2, p1, p0] j))) := FA4_1.ext E17
    have sz26 : n0 ≤ h14.size := Nat.le_trans sz_A4 E17.1
    have sy27 : h0.size ≤ h14.size := Nat.le_trans sz0_A4 E17.1
    have K28 := K_A4.ext E17
    show Wk _ p l e _ s m _ below meth c n0 _ h14 2 8 (mkF m 39 #[.val (.ref a), .val (.int (4 : Int32)), .val (.ref b2), .val (.int (4 : Int32)), .unset, .unset] [(.ref b15)])
    refine Wk.st (g' := (mkF m 40 #[.val (.ref a), .val (.int (4 : Int32)), .val (.ref b2), .val (.ref b15), .unset, .unset] [])) (fun X t q => XS.astoreN X.here C.hx rfl (hb C.hby d2_39) rfl rfl (l' := #[.val (.ref a), .val (.int (4 : Int32)), .val (.ref b2), .val (.ref b15), .unset, .unset]) rfl q) ?_
    refine Wk.st (g' := (mkF m 41 #[.val (.ref a), .val (.int (4 : Int32)), .val (.ref b2), .val (.ref b15), .unset, .unset] [(.int (0 : Int32))])) (fun X t q => XS.iconst X.here C.hx rfl (hb C.hby d2_40) q) ?_
    refine Wk.st (g' := (mkF m 43 #[.val (.ref a), .val (.int (4 : Int32)), .val (.ref b2), .val (.ref b15), .val (.int (0 : Int32)), .unset] [])) (fun X t q => XS.istore X.here C.hx rfl (hb C.hby d2_41) rfl (l' := #[.val (.ref a), .val (.int (4 : Int32)), .val (.ref b2), .val (.ref b15), .val (.int (0 : Int32)), .unset]) rfl q) ?_
    refine Wk.st (g' := (mkF m 45 #[.val (.ref a), .val (.int (4 : Int32)), .val (.ref b2), .val (.ref b15), .val (.int (0 : Int32)), .unset] [(.int (0 : Int32))])) (fun X t q => XS.iload X.here C.hx rfl (hb C.hby d2_43) rfl q) ?_
    refine Wk.st (g' := (mkF m 46 #[.val (.ref a), .val (.int (4 : Int32)), .val (.ref b2), .val (.ref b15), .val (.int (0 : Int32)), .unset] [(.int (4 : Int32)), (.int (0 : Int32))])) (fun X t q => XS.iloadN X.here C.hx rfl (hb C.hby d2_45) rfl q) ?_
    refine Wk.st (g' := (mkF m 49 #[.val (.ref a), .val (.int (4 : Int32)), .val (.ref b2), .val (.ref b15), .val (.int (0 : Int32)), .unset] [])) (fun X t q => XS.icmpNo X.here C.hx rfl (hb C.hby d2_46) rfl (XT.ii_ge_f (by decide)) q) ?_
    refine Wk.st (g' := (mkF m 50 #[.val (.ref a), .val (.int (4 : Int32)), .val (.ref b2), .val (.ref b15), .val (.int (0 : Int32)), .unset] [(.ref b15)])) (fun X t q => XS.aloadN X.here C.hx rfl (hb C.hby d2_49) rfl rfl q) ?_
    refine Wk.st (g' := (mkF m 52 #[.val (.ref a), .val (.int (4 : Int32)), .val (.ref b2), .val (.ref b15), .val (.int (0 : Int32)), .unset] [(.int (0 : Int32)), (.ref b15)])) (fun X t q => XS.iload X.here C.hx rfl (hb C.hby d2_50) rfl q) ?_
    refine Wk.st (g' := (mkF m 53 #[.val (.ref a), .val (.int (4 : Int32)), .val (.ref b2), .val (.ref b15), .val (.int (0 : Int32)), .unset] [(.ref b2), (.int (0 : Int32)), (.ref b15)])) (fun X t q => XS.aloadN X.here C.hx rfl (hb C.hby d2_52) rfl rfl q) ?_
    refine Wk.st (g' := (mkF m 55 #[.val (.ref a), .val (.int (4 : Int32)), .val (.ref b2), .val (.ref b15), .val (.int (0 : Int32)), .unset] [(.int (0 : Int32)), (.ref b2), (.int (0 : Int32)), (.ref b15)])) (fun X t q => XS.iload X.here C.hx rfl (hb C.hby d2_53) rfl q) ?_
    refine Wk.fLdI C F25 (i := 0) (by decide) (by decide) (by decide) (v := (.int (cn [p3, p2, p1, p0] 0))) rfl d2_55 ?_
    show Wk _ p l e _ s m _ below meth c n0 _ h14 2 8 (mkF m 56 #[.val (.ref a), .val (.int (4 : Int32)), .val (.ref b2), .val (.ref b15), .val (.int (0 : Int32)), .unset] [(.int (cn [p3, p2, p1, p0] 0)), (.int (0 : Int32)), (.ref b15)])
    refine Wk.fNewP C (hw _ (List.mem_of_getElem? (i := 5) rfl)) (ty := .int) (dv := (.int (0 : Int32))) (N := (cn [p3, p2, p1, p0] 0).toNatClampNeg) (ad := "[I") rfl rfl rfl (by decide) (cn_nn _ _ (Nat.le_of_ble_eq_true rfl)) (cap := 4) (cn_le (Nat.le_of_ble_eq_true rfl) (Nat.le_of_ble_eq_true rfl)) (by decide) d2_56 (by decide) (by decide) ?_
    intro h29 b30 g31 E32 A33 F34
    have ne35 : a ≠ b30 := Nat.ne_of_lt (Nat.lt_of_lt_of_le F24.lt (Nat.le_of_eq g31.symm))
    have ne36 : b2 ≠ b30 := Nat.ne_of_lt (Nat.lt_of_lt_of_le F25.lt (Nat.le_of_eq g31.symm))
    have ne37 : b15 ≠ b30 := Nat.ne_of_lt (Nat.lt_of_lt_of_le A18.lt (Nat.le_of_eq g31.symm))
    have ge38 : n0 ≤ b30 := Nat.le_trans sz26 (Nat.le_of_eq g31.symm)
    have gz39 : h0.size ≤ b30 := Nat.le_trans sy27 (Nat.le_of_eq g31.symm)
    have F40 : Fa Z h29 a .int 4 (up (up (up (up (fun _ => (.int (0 : Int32))) 0 (.int p0)) 1 (.int p1)) 2 (.int p2)) 3 (.int p3)) := F24.ext E32
    have F41 : Fa Z h29 b2 .int 4 (fun j => (.int (cn [p3, p2, p1, p0] j))) := F25.ext E32
    have F42 : Exa Z h29 b15 "[[I" := A18.ext E32
    have F43 : FaA Z h29 b15 .int "[I" 4 (fun _ => .null) := F19.ext E32
    have sz44 : n0 ≤ h29.size := Nat.le_trans sz26 E32.1
    have sy45 : h0.size ≤ h29.size := Nat.le_trans sy27 E32.1
    have K46 := K28.ext E32
    show Wk _ p l e _ s m _ below meth c n0 _ h29 3 12 (mkF m 58 #[.val (.ref a), .val (.int (4 : Int32)), .val (.ref b2), .val (.ref b15), .val (.int (0 : Int32)), .unset] [(.ref b30), (.int (0 : Int32)), (.ref b15)])
    refine Wk.fStA C F43 (i := 0) (by decide) (by decide) (by decide) (F43.sto A33) ge22 d2_58 ?_
    intro h47 W48 F49
    have F50 : Fa Z h47 a .int 4 (up (up (up (up (fun _ => (.int (0 : Int32))) 0 (.int p0)) 1 (.int p1)) 2 (.int p2)) 3 (.int p3)) := F40.other W48 ne20
    have F51 : Fa Z h47 b2 .int 4 (fun j => (.int (cn [p3, p2, p1, p0] j))) := F41.other W48 ne21
    have F52 : Exa Z h47 b15 "[[I" := F42.wr W48
    have F53 : Exa Z h47 b30 "[I" := A33.wr W48
    have F54 : Fa Z h47 b30 .int (cn [p3, p2, p1, p0] 0).toNatClampNeg (fun _ => (.int (0 : Int32))) := F34.other W48 (Ne.symm ne37)
    have sz55 : n0 ≤ h47.size := Nat.le_trans sz44 (Nat.le_of_eq W48.size.symm)
    have sy56 : h0.size ≤ h47.size := Nat.le_trans sy45 (Nat.le_of_eq W48.size.symm)
    have K57 := K46.wr W48 (Or.inr gz23)
    show Wk _ p l e _ s m _ below meth c n0 _ h47 3 12 (mkF m 59 #[.val (.ref a), .val (.int (4 : Int32)), .val (.ref b2), .val (.ref b15), .val (.int (0 : Int32)), .unset] [])
    refine Wk.st (g' := (mkF m 62 #[.val (.ref a), .val (.int (4 : Int32)), .val (.ref b2), .val (.ref b15), .val (.int (1 : Int32)), .unset] [])) (fun X t q => XS.iinc X.here C.hx rfl (hb C.hby d2_59) rfl (l' := #[.val (.ref a), .val (.int (4 : Int32)), .val (.ref b2), .val (.ref b15), .val (.int (1 : Int32)), .unset]) rfl q) ?_
    refine Wk.st (g' := (mkF m 43 #[.val (.ref a), .val (.int (4 : Int32)), .val (.ref b2), .val (.ref b15), .val (.int (1 : Int32)), .unset] [])) (fun X t q => XS.goto X.here C.hx rfl (pc0 := 62) (pc' := 43) rfl (hb C.hby d2_62) (by decide) (by decide) q) ?_
    refine Wk.st (g' := (mkF m 45 #[.val (.ref a), .val (.int (4 : Int32)), .val (.ref b2), .val (.ref b15), .val (.int (1 : Int32)), .unset] [(.int (1 : Int32))])) (fun X t q => XS.iload X.here C.hx rfl (hb C.hby d2_43) rfl q) ?_
    refine Wk.st (g' := (mkF m 46 #[.val (.ref a), .val (.int (4 : Int32)), .val (.ref b2), .val (.ref b15), .val (.int (1 : Int32)), .unset] [(.int (4 : Int32)), (.int (1 : Int32))])) (fun X t q => XS.iloadN X.here C.hx rfl (hb C.hby d2_45) rfl q) ?_
    refine Wk.st (g' := (mkF m 49 #[.val (.ref a), .val (.int (4 : Int32)), .val (.ref b2), .val (.ref b15), .val (.int (1 : Int32)), .unset] [])) (fun X t q => XS.icmpNo X.here C.hx rfl (hb C.hby d2_46) rfl (XT.ii_ge_f (by decide)) q) ?_
    refine Wk.st (g' := (mkF m 50 #[.val (.ref a), .val (.int (4 : Int32)), .val (.ref b2), .val (.ref b15), .val (.int (1 : Int32)), .unset] [(.ref b15)])) (fun X t q => XS.aloadN X.here C.hx rfl (hb C.hby d2_49) rfl rfl q) ?_
    refine Wk.st (g' := (mkF m 52 #[.val (.ref a), .val (.int (4 : Int32)), .val (.ref b2), .val (.ref b15), .val (.int (1 : Int32)), .unset] [(.int (1 : Int32)), (.ref b15)])) (fun X t q => XS.iload X.here C.hx rfl (hb C.hby d2_50) rfl q) ?_
    refine Wk.st (g' := (mkF m 53 #[.val (.ref a), .val (.int (4 : Int32)), .val (.ref b2), .val (.ref b15), .val (.int (1 : Int32)), .unset] [(.ref b2), (.int (1 : Int32)), (.ref b15)])) (fun X t q => XS.aloadN X.here C.hx rfl (hb C.hby d2_52) rfl rfl q) ?_
    refine Wk.st (g' := (mkF m 55 #[.val (.ref a), .val (.int (4 : Int32)), .val (.ref b2), .val (.ref b15), .val (.int (1 : Int32)), .unset] [(.int (1 : Int32)), (.ref b2), (.int (1 : Int32)), (.ref b15)])) (fun X t q => XS.iload X.here C.hx rfl (hb C.hby d2_53) rfl q) ?_
    refine Wk.fLdI C F51 (i := 1) (by decide) (by decide) (by decide) (v := (.int (cn [p3, p2, p1, p0] 1))) rfl d2_55 ?_
    show Wk _ p l e _ s m _ below meth c n0 _ h47 3 12 (mkF m 56 #[.val (.ref a), .val (.int (4 : Int32)), .val (.ref b2), .val (.ref b15), .val (.int (1 : Int32)), .unset] [(.int (cn [p3, p2, p1, p0] 1)), (.int (1 : Int32)), (.ref b15)])
    refine Wk.fNewP C (hw _ (List.mem_of_getElem? (i := 5) rfl)) (ty := .int) (dv := (.int (0 : Int32))) (N := (cn [p3, p2, p1, p0] 1).toNatClampNeg) (ad := "[I") rfl rfl rfl (by decide) (cn_nn _ _ (Nat.le_of_ble_eq_true rfl)) (cap := 4) (cn_le (Nat.le_of_ble_eq_true rfl) (Nat.le_of_ble_eq_true rfl)) (by decide) d2_56 (by decide) (by decide) ?_
    intro h58 b59 g60 E61 A62 F63
    have ne64 : a ≠ b59 := Nat.ne_of_lt (Nat.lt_of_lt_of_le F50.lt (Nat.le_of_eq g60.symm))
    have ne65 : b2 ≠ b59 := Nat.ne_of_lt (Nat.lt_of_lt_of_le F51.lt (Nat.le_of_eq g60.symm))
    have ne66 : b15 ≠ b59 := Nat.ne_of_lt (Nat.lt_of_lt_of_le F52.lt (Nat.le_of_eq g60.symm))
    have ne67 : b30 ≠ b59 := Nat.ne_of_lt (Nat.lt_of_lt_of_le F53.lt (Nat.le_of_eq g60.symm))
    have ge68 : n0 ≤ b59 := Nat.le_trans sz55 (Nat.le_of_eq g60.symm)
    have gz69 : h0.size ≤ b59 := Nat.le_trans sy56 (Nat.le_of_eq g60.symm)
    have F70 : Fa Z h58 a .int 4 (up (up (up (up (fun _ => (.int (0 : Int32))) 0 (.int p0)) 1 (.int p1)) 2 (.int p2)) 3 (.int p3)) := F50.ext E61
    have F71 : Fa Z h58 b2 .int 4 (fun j => (.int (cn [p3, p2, p1, p0] j))) := F51.ext E61
    have F72 : Exa Z h58 b15 "[[I" := F52.ext E61
    have F73 : Exa Z h58 b30 "[I" := F53.ext E61
    have F74 : Fa Z h58 b30 .int (cn [p3, p2, p1, p0] 0).toNatClampNeg (fun _ => (.int (0 : Int32))) := F54.ext E61
    have F75 : FaA Z h58 b15 .int "[I" 4 (up (fun _ => .null) 0 (.ref b30)) := F49.ext E61
    have sz76 : n0 ≤ h58.size := Nat.le_trans sz55 E61.1
    have sy77 : h0.size ≤ h58.size := Nat.le_trans sy56 E61.1
    have K78 := K57.ext E61
    show Wk _ p l e _ s m _ below meth c n0 _ h58 4 16 (mkF m 58 #[.val (.ref a), .val (.int (4 : Int32)), .val (.ref b2), .val (.ref b15), .val (.int (1 : Int32)), .unset] [(.ref b59), (.int (1 : Int32)), (.ref b15)])
    refine Wk.fStA C F75 (i := 1) (by decide) (by decide) (by decide) (F75.sto A62) ge22 d2_58 ?_
    intro h79 W80 F81
    have F82 : Fa Z h79 a .int 4 (up (up (up (up (fun _ => (.int (0 : Int32))) 0 (.int p0)) 1 (.int p1)) 2 (.int p2)) 3 (.int p3)) := F70.other W80 ne20
    have F83 : Fa Z h79 b2 .int 4 (fun j => (.int (cn [p3, p2, p1, p0] j))) := F71.other W80 ne21
    have F84 : Exa Z h79 b15 "[[I" := F72.wr W80
    have F85 : Exa Z h79 b30 "[I" := F73.wr W80
    have F86 : Fa Z h79 b30 .int (cn [p3, p2, p1, p0] 0).toNatClampNeg (fun _ => (.int (0 : Int32))) := F74.other W80 (Ne.symm ne37)
    have F87 : Exa Z h79 b59 "[I" := A62.wr W80
    have F88 : Fa Z h79 b59 .int (cn [p3, p2, p1, p0] 1).toNatClampNeg (fun _ => (.int (0 : Int32))) := F63.other W80 (Ne.symm ne66)
    have sz89 : n0 ≤ h79.size := Nat.le_trans sz76 (Nat.le_of_eq W80.size.symm)
    have sy90 : h0.size ≤ h79.size := Nat.le_trans sy77 (Nat.le_of_eq W80.size.symm)
    have K91 := K78.wr W80 (Or.inr gz23)
    show Wk _ p l e _ s m _ below meth c n0 _ h79 4 16 (mkF m 59 #[.val (.ref a), .val (.int (4 : Int32)), .val (.ref b2), .val (.ref b15), .val (.int (1 : Int32)), .unset] [])
    refine Wk.st (g' := (mkF m 62 #[.val (.ref a), .val (.int (4 : Int32)), .val (.ref b2), .val (.ref b15), .val (.int (2 : Int32)), .unset] [])) (fun X t q => XS.iinc X.here C.hx rfl (hb C.hby d2_59) rfl (l' := #[.val (.ref a), .val (.int (4 : Int32)), .val (.ref b2), .val (.ref b15), .val (.int (2 : Int32)), .unset]) rfl q) ?_
    refine Wk.st (g' := (mkF m 43 #[.val (.ref a), .val (.int (4 : Int32)), .val (.ref b2), .val (.ref b15), .val (.int (2 : Int32)), .unset] [])) (fun X t q => XS.goto X.here C.hx rfl (pc0 := 62) (pc' := 43) rfl (hb C.hby d2_62) (by decide) (by decide) q) ?_
    refine Wk.st (g' := (mkF m 45 #[.val (.ref a), .val (.int (4 : Int32)), .val (.ref b2), .val (.ref b15), .val (.int (2 : Int32)), .unset] [(.int (2 : Int32))])) (fun X t q => XS.iload X.here C.hx rfl (hb C.hby d2_43) rfl q) ?_
    refine Wk.st (g' := (mkF m 46 #[.val (.ref a), .val (.int (4 : Int32)), .val (.ref b2), .val (.ref b15), .val (.int (2 : Int32)), .unset] [(.int (4 : Int32)), (.int (2 : Int32))])) (fun X t q => XS.iloadN X.here C.hx rfl (hb C.hby d2_45) rfl q) ?_
    refine Wk.st (g' := (mkF m 49 #[.val (.ref a), .val (.int (4 : Int32)), .val (.ref b2), .val (.ref b15), .val (.int (2 : Int32)), .unset] [])) (fun X t q => XS.icmpNo X.here C.hx rfl (hb C.hby d2_46) rfl (XT.ii_ge_f (by decide)) q) ?_
    refine Wk.st (g' := (mkF m 50 #[.val (.ref a), .val (.int (4 : Int32)), .val (.ref b2), .val (.ref b15), .val (.int (2 : Int32)), .unset] [(.ref b15)])) (fun X t q => XS.aloadN X.here C.hx rfl (hb C.hby d2_49) rfl rfl q) ?_
    refine Wk.st (g' := (mkF m 52 #[.val (.ref a), .val (.int (4 : Int32)), .val (.ref b2), .val (.ref b15), .val (.int (2 : Int32)), .unset] [(.int (2 : Int32)), (.ref b15)])) (fun X t q => XS.iload X.here C.hx rfl (hb C.hby d2_50) rfl q) ?_
    refine Wk.st (g' := (mkF m 53 #[.val (.ref a), .val (.int (4 : Int32)), .val (.ref b2), .val (.ref b15), .val (.int (2 : Int32)), .unset] [(.ref b2), (.int (2 : Int32)), (.ref b15)])) (fun X t q => XS.aloadN X.here C.hx rfl (hb C.hby d2_52) rfl rfl q) ?_
    refine Wk.st (g' := (mkF m 55 #[.val (.ref a), .val (.int (4 : Int32)), .val (.ref b2), .val (.ref b15), .val (.int (2 : Int32)), .unset] [(.int (2 : Int32)), (.ref b2), (.int (2 : Int32)), (.ref b15)])) (fun X t q => XS.iload X.here C.hx rfl (hb C.hby d2_53) rfl q) ?_
    refine Wk.fLdI C F83 (i := 2) (by decide) (by decide) (by decide) (v := (.int (cn [p3, p2, p1, p0] 2))) rfl d2_55 ?_
    show Wk _ p l e _ s m _ below meth c n0 _ h79 4 16 (mkF m 56 #[.val (.ref a), .val (.int (4 : Int32)), .val (.ref b2), .val (.ref b15), .val (.int (2 : Int32)), .unset] [(.int (cn [p3, p2, p1, p0] 2)), (.int (2 : Int32)), (.ref b15)])
    refine Wk.fNewP C (hw _ (List.mem_of_getElem? (i := 5) rfl)) (ty := .int) (dv := (.int (0 : Int32))) (N := (cn [p3, p2, p1, p0] 2).toNatClampNeg) (ad := "[I") rfl rfl rfl (by decide) (cn_nn _ _ (Nat.le_of_ble_eq_true rfl)) (cap := 4) (cn_le (Nat.le_of_ble_eq_true rfl) (Nat.le_of_ble_eq_true rfl)) (by decide) d2_56 (by decide) (by decide) ?_
    intro h92 b93 g94 E95 A96 F97
    have ne98 : a ≠ b93 := Nat.ne_of_lt (Nat.lt_of_lt_of_le F82.lt (Nat.le_of_eq g94.symm))
    have ne99 : b2 ≠ b93 := Nat.ne_of_lt (Nat.lt_of_lt_of_le F83.lt (Nat.le_of_eq g94.symm))
    have ne100 : b15 ≠ b93 := Nat.ne_of_lt (Nat.lt_of_lt_of_le F84.lt (Nat.le_of_eq g94.symm))
    have ne101 : b30 ≠ b93 := Nat.ne_of_lt (Nat.lt_of_lt_of_le F85.lt (Nat.le_of_eq g94.symm))
    have ne102 : b59 ≠ b93 := Nat.ne_of_lt (Nat.lt_of_lt_of_le F87.lt (Nat.le_of_eq g94.symm))
    have ge103 : n0 ≤ b93 := Nat.le_trans sz89 (Nat.le_of_eq g94.symm)
    have gz104 : h0.size ≤ b93 := Nat.le_trans sy90 (Nat.le_of_eq g94.symm)
    have F105 : Fa Z h92 a .int 4 (up (up (up (up (fun _ => (.int (0 : Int32))) 0 (.int p0)) 1 (.int p1)) 2 (.int p2)) 3 (.int p3)) := F82.ext E95
    have F106 : Fa Z h92 b2 .int 4 (fun j => (.int (cn [p3, p2, p1, p0] j))) := F83.ext E95
    have F107 : Exa Z h92 b15 "[[I" := F84.ext E95
    have F108 : Exa Z h92 b30 "[I" := F85.ext E95
    have F109 : Fa Z h92 b30 .int (cn [p3, p2, p1, p0] 0).toNatClampNeg (fun _ => (.int (0 : Int32))) := F86.ext E95
    have F110 : Exa Z h92 b59 "[I" := F87.ext E95
    have F111 : Fa Z h92 b59 .int (cn [p3, p2, p1, p0] 1).toNatClampNeg (fun _ => (.int (0 : Int32))) := F88.ext E95
    have F112 : FaA Z h92 b15 .int "[I" 4 (up (up (fun _ => .null) 0 (.ref b30)) 1 (.ref b59)) := F81.ext E95
    have sz113 : n0 ≤ h92.size := Nat.le_trans sz89 E95.1
    have sy114 : h0.size ≤ h92.size := Nat.le_trans sy90 E95.1
    have K115 := K91.ext E95
    show Wk _ p l e _ s m _ below meth c n0 _ h92 5 20 (mkF m 58 #[.val (.ref a), .val (.int (4 : Int32)), .val (.ref b2), .val (.ref b15), .val (.int (2 : Int32)), .unset] [(.ref b93), (.int (2 : Int32)), (.ref b15)])
    refine Wk.fStA C F112 (i := 2) (by decide) (by decide) (by decide) (F112.sto A96) ge22 d2_58 ?_
    intro h116 W117 F118
    have F119 : Fa Z h116 a .int 4 (up (up (up (up (fun _ => (.int (0 : Int32))) 0 (.int p0)) 1 (.int p1)) 2 (.int p2)) 3 (.int p3)) := F105.other W117 ne20
    have F120 : Fa Z h116 b2 .int 4 (fun j => (.int (cn [p3, p2, p1, p0] j))) := F106.other W117 ne21
    have F121 : Exa Z h116 b15 "[[I" := F107.wr W117
    have F122 : Exa Z h116 b30 "[I" := F108.wr W117
    have F123 : Fa Z h116 b30 .int (cn [p3, p2, p1, p0] 0).toNatClampNeg (fun _ => (.int (0 : Int32))) := F109.other W117 (Ne.symm ne37)
    have F124 : Exa Z h116 b59 "[I" := F110.wr W117
    have F125 : Fa Z h116 b59 .int (cn [p3, p2, p1, p0] 1).toNatClampNeg (fun _ => (.int (0 : Int32))) := F111.other W117 (Ne.symm ne66)
    have F126 : Exa Z h116 b93 "[I" := A96.wr W117
    have F127 : Fa Z h116 b93 .int (cn [p3, p2, p1, p0] 2).toNatClampNeg (fun _ => (.int (0 : Int32))) := F97.other W117 (Ne.symm ne100)
    have sz128 : n0 ≤ h116.size := Nat.le_trans sz113 (Nat.le_of_eq W117.size.symm)
    have sy129 : h0.size ≤ h116.size := Nat.le_trans sy114 (Nat.le_of_eq W117.size.symm)
    have K130 := K115.wr W117 (Or.inr gz23)
    show Wk _ p l e _ s m _ below meth c n0 _ h116 5 20 (mkF m 59 #[.val (.ref a), .val (.int (4 : Int32)), .val (.ref b2), .val (.ref b15), .val (.int (2 : Int32)), .unset] [])
    refine Wk.st (g' := (mkF m 62 #[.val (.ref a), .val (.int (4 : Int32)), .val (.ref b2), .val (.ref b15), .val (.int (3 : Int32)), .unset] [])) (fun X t q => XS.iinc X.here C.hx rfl (hb C.hby d2_59) rfl (l' := #[.val (.ref a), .val (.int (4 : Int32)), .val (.ref b2), .val (.ref b15), .val (.int (3 : Int32)), .unset]) rfl q) ?_
    refine Wk.st (g' := (mkF m 43 #[.val (.ref a), .val (.int (4 : Int32)), .val (.ref b2), .val (.ref b15), .val (.int (3 : Int32)), .unset] [])) (fun X t q => XS.goto X.here C.hx rfl (pc0 := 62) (pc' := 43) rfl (hb C.hby d2_62) (by decide) (by decide) q) ?_
    refine Wk.st (g' := (mkF m 45 #[.val (.ref a), .val (.int (4 : Int32)), .val (.ref b2), .val (.ref b15), .val (.int (3 : Int32)), .unset] [(.int (3 : Int32))])) (fun X t q => XS.iload X.here C.hx rfl (hb C.hby d2_43) rfl q) ?_
    refine Wk.st (g' := (mkF m 46 #[.val (.ref a), .val (.int (4 : Int32)), .val (.ref b2), .val (.ref b15), .val (.int (3 : Int32)), .unset] [(.int (4 : Int32)), (.int (3 : Int32))])) (fun X t q => XS.iloadN X.here C.hx rfl (hb C.hby d2_45) rfl q) ?_
    refine Wk.st (g' := (mkF m 49 #[.val (.ref a), .val (.int (4 : Int32)), .val (.ref b2), .val (.ref b15), .val (.int (3 : Int32)), .unset] [])) (fun X t q => XS.icmpNo X.here C.hx rfl (hb C.hby d2_46) rfl (XT.ii_ge_f (by decide)) q) ?_
    refine Wk.st (g' := (mkF m 50 #[.val (.ref a), .val (.int (4 : Int32)), .val (.ref b2), .val (.ref b15), .val (.int (3 : Int32)), .unset] [(.ref b15)])) (fun X t q => XS.aloadN X.here C.hx rfl (hb C.hby d2_49) rfl rfl q) ?_
    refine Wk.st (g' := (mkF m 52 #[.val (.ref a), .val (.int (4 : Int32)), .val (.ref b2), .val (.ref b15), .val (.int (3 : Int32)), .unset] [(.int (3 : Int32)), (.ref b15)])) (fun X t q => XS.iload X.here C.hx rfl (hb C.hby d2_50) rfl q) ?_
    refine Wk.st (g' := (mkF m 53 #[.val (.ref a), .val (.int (4 : Int32)), .val (.ref b2), .val (.ref b15), .val (.int (3 : Int32)), .unset] [(.ref b2), (.int (3 : Int32)), (.ref b15)])) (fun X t q => XS.aloadN X.here C.hx rfl (hb C.hby d2_52) rfl rfl q) ?_
    refine Wk.st (g' := (mkF m 55 #[.val (.ref a), .val (.int (4 : Int32)), .val (.ref b2), .val (.ref b15), .val (.int (3 : Int32)), .unset] [(.int (3 : Int32)), (.ref b2), (.int (3 : Int32)), (.ref b15)])) (fun X t q => XS.iload X.here C.hx rfl (hb C.hby d2_53) rfl q) ?_
    refine Wk.fLdI C F120 (i := 3) (by decide) (by decide) (by decide) (v := (.int (cn [p3, p2, p1, p0] 3))) rfl d2_55 ?_
    show Wk _ p l e _ s m _ below meth c n0 _ h116 5 20 (mkF m 56 #[.val (.ref a), .val (.int (4 : Int32)), .val (.ref b2), .val (.ref b15), .val (.int (3 : Int32)), .unset] [(.int (cn [p3, p2, p1, p0] 3)), (.int (3 : Int32)), (.ref b15)])
    refine Wk.fNewP C (hw _ (List.mem_of_getElem? (i := 5) rfl)) (ty := .int) (dv := (.int (0 : Int32))) (N := (cn [p3, p2, p1, p0] 3).toNatClampNeg) (ad := "[I") rfl rfl rfl (by decide) (cn_nn _ _ (Nat.le_of_ble_eq_true rfl)) (cap := 4) (cn_le (Nat.le_of_ble_eq_true rfl) (Nat.le_of_ble_eq_true rfl)) (by decide) d2_56 (by decide) (by decide) ?_
    intro h131 b132 g133 E134 A135 F136
    have ne137 : a ≠ b132 := Nat.ne_of_lt (Nat.lt_of_lt_of_le F119.lt (Nat.le_of_eq g133.symm))
    have ne138 : b2 ≠ b132 := Nat.ne_of_lt (Nat.lt_of_lt_of_le F120.lt (Nat.le_of_eq g133.symm))
    have ne139 : b15 ≠ b132 := Nat.ne_of_lt (Nat.lt_of_lt_of_le F121.lt (Nat.le_of_eq g133.symm))
    have ne140 : b30 ≠ b132 := Nat.ne_of_lt (Nat.lt_of_lt_of_le F122.lt (Nat.le_of_eq g133.symm))
    have ne141 : b59 ≠ b132 := Nat.ne_of_lt (Nat.lt_of_lt_of_le F124.lt (Nat.le_of_eq g133.symm))
    have ne142 : b93 ≠ b132 := Nat.ne_of_lt (Nat.lt_of_lt_of_le F126.lt (Nat.le_of_eq g133.symm))
    have ge143 : n0 ≤ b132 := Nat.le_trans sz128 (Nat.le_of_eq g133.symm)
    have gz144 : h0.size ≤ b132 := Nat.le_trans sy129 (Nat.le_of_eq g133.symm)
    have F145 : Fa Z h131 a .int 4 (up (up (up (up (fun _ => (.int (0 : Int32))) 0 (.int p0)) 1 (.int p1)) 2 (.int p2)) 3 (.int p3)) := F119.ext E134
    have F146 : Fa Z h131 b2 .int 4 (fun j => (.int (cn [p3, p2, p1, p0] j))) := F120.ext E134
    have F147 : Exa Z h131 b15 "[[I" := F121.ext E134
    have F148 : Exa Z h131 b30 "[I" := F122.ext E134
    have F149 : Fa Z h131 b30 .int (cn [p3, p2, p1, p0] 0).toNatClampNeg (fun _ => (.int (0 : Int32))) := F123.ext E134
    have F150 : Exa Z h131 b59 "[I" := F124.ext E134
    have F151 : Fa Z h131 b59 .int (cn [p3, p2, p1, p0] 1).toNatClampNeg (fun _ => (.int (0 : Int32))) := F125.ext E134
    have F152 : Exa Z h131 b93 "[I" := F126.ext E134
    have F153 : Fa Z h131 b93 .int (cn [p3, p2, p1, p0] 2).toNatClampNeg (fun _ => (.int (0 : Int32))) := F127.ext E134
    have F154 : FaA Z h131 b15 .int "[I" 4 (up (up (up (fun _ => .null) 0 (.ref b30)) 1 (.ref b59)) 2 (.ref b93)) := F118.ext E134
    have sz155 : n0 ≤ h131.size := Nat.le_trans sz128 E134.1
    have sy156 : h0.size ≤ h131.size := Nat.le_trans sy129 E134.1
    have K157 := K130.ext E134
    show Wk _ p l e _ s m _ below meth c n0 _ h131 6 24 (mkF m 58 #[.val (.ref a), .val (.int (4 : Int32)), .val (.ref b2), .val (.ref b15), .val (.int (3 : Int32)), .unset] [(.ref b132), (.int (3 : Int32)), (.ref b15)])
    refine Wk.fStA C F154 (i := 3) (by decide) (by decide) (by decide) (F154.sto A135) ge22 d2_58 ?_
    intro h158 W159 F160
    have F161 : Fa Z h158 a .int 4 (up (up (up (up (fun _ => (.int (0 : Int32))) 0 (.int p0)) 1 (.int p1)) 2 (.int p2)) 3 (.int p3)) := F145.other W159 ne20
    have F162 : Fa Z h158 b2 .int 4 (fun j => (.int (cn [p3, p2, p1, p0] j))) := F146.other W159 ne21
    have F163 : Exa Z h158 b15 "[[I" := F147.wr W159
    have F164 : Exa Z h158 b30 "[I" := F148.wr W159
    have F165 : Fa Z h158 b30 .int (cn [p3, p2, p1, p0] 0).toNatClampNeg (fun _ => (.int (0 : Int32))) := F149.other W159 (Ne.symm ne37)
    have F166 : Exa Z h158 b59 "[I" := F150.wr W159
    have F167 : Fa Z h158 b59 .int (cn [p3, p2, p1, p0] 1).toNatClampNeg (fun _ => (.int (0 : Int32))) := F151.other W159 (Ne.symm ne66)
    have F168 : Exa Z h158 b93 "[I" := F152.wr W159
    have F169 : Fa Z h158 b93 .int (cn [p3, p2, p1, p0] 2).toNatClampNeg (fun _ => (.int (0 : Int32))) := F153.other W159 (Ne.symm ne100)
    have F170 : Exa Z h158 b132 "[I" := A135.wr W159
    have F171 : Fa Z h158 b132 .int (cn [p3, p2, p1, p0] 3).toNatClampNeg (fun _ => (.int (0 : Int32))) := F136.other W159 (Ne.symm ne139)
    have sz172 : n0 ≤ h158.size := Nat.le_trans sz155 (Nat.le_of_eq W159.size.symm)
    have sy173 : h0.size ≤ h158.size := Nat.le_trans sy156 (Nat.le_of_eq W159.size.symm)
    have K174 := K157.wr W159 (Or.inr gz23)
    show Wk _ p l e _ s m _ below meth c n0 _ h158 6 24 (mkF m 59 #[.val (.ref a), .val (.int (4 : Int32)), .val (.ref b2), .val (.ref b15), .val (.int (3 : Int32)), .unset] [])
    refine Wk.st (g' := (mkF m 62 #[.val (.ref a), .val (.int (4 : Int32)), .val (.ref b2), .val (.ref b15), .val (.int (4 : Int32)), .unset] [])) (fun X t q => XS.iinc X.here C.hx rfl (hb C.hby d2_59) rfl (l' := #[.val (.ref a), .val (.int (4 : Int32)), .val (.ref b2), .val (.ref b15), .val (.int (4 : Int32)), .unset]) rfl q) ?_
    refine Wk.st (g' := (mkF m 43 #[.val (.ref a), .val (.int (4 : Int32)), .val (.ref b2), .val (.ref b15), .val (.int (4 : Int32)), .unset] [])) (fun X t q => XS.goto X.here C.hx rfl (pc0 := 62) (pc' := 43) rfl (hb C.hby d2_62) (by decide) (by decide) q) ?_
    refine Wk.st (g' := (mkF m 45 #[.val (.ref a), .val (.int (4 : Int32)), .val (.ref b2), .val (.ref b15), .val (.int (4 : Int32)), .unset] [(.int (4 : Int32))])) (fun X t q => XS.iload X.here C.hx rfl (hb C.hby d2_43) rfl q) ?_
    refine Wk.st (g' := (mkF m 46 #[.val (.ref a), .val (.int (4 : Int32)), .val (.ref b2), .val (.ref b15), .val (.int (4 : Int32)), .unset] [(.int (4 : Int32)), (.int (4 : Int32))])) (fun X t q => XS.iloadN X.here C.hx rfl (hb C.hby d2_45) rfl q) ?_
    refine Wk.st (g' := (mkF m 65 #[.val (.ref a), .val (.int (4 : Int32)), .val (.ref b2), .val (.ref b15), .val (.int (4 : Int32)), .unset] [])) (fun X t q => XS.icmpYes X.here C.hx rfl (pc0 := 46) (pc' := 65) rfl (hb C.hby d2_46) rfl (XT.ii_ge_t (by decide)) (by decide) (by decide) q) ?_
    refine Wk.st (g' := (mkF m 66 #[.val (.ref a), .val (.int (4 : Int32)), .val (.ref b2), .val (.ref b15), .val (.int (4 : Int32)), .unset] [(.int (4 : Int32))])) (fun X t q => XS.iloadN X.here C.hx rfl (hb C.hby d2_65) rfl q) ?_
    refine Wk.fNewP C (hw _ (List.mem_of_getElem? (i := 5) rfl)) (ty := .int) (dv := (.int (0 : Int32))) (N := 4) (ad := "[I") rfl rfl (by decide) (by decide) (by decide) (cap := 4) (by decide) (by decide) d2_66 (by decide) (by decide) ?_
    intro h175 b176 g177 E178 A179 F180
    have ne181 : a ≠ b176 := Nat.ne_of_lt (Nat.lt_of_lt_of_le F161.lt (Nat.le_of_eq g177.symm))
    have ne182 : b2 ≠ b176 := Nat.ne_of_lt (Nat.lt_of_lt_of_le F162.lt (Nat.le_of_eq g177.symm))
    have ne183 : b15 ≠ b176 := Nat.ne_of_lt (Nat.lt_of_lt_of_le F163.lt (Nat.le_of_eq g177.symm))
    have ne184 : b30 ≠ b176 := Nat.ne_of_lt (Nat.lt_of_lt_of_le F164.lt (Nat.le_of_eq g177.symm))
    have ne185 : b59 ≠ b176 := Nat.ne_of_lt (Nat.lt_of_lt_of_le F166.lt (Nat.le_of_eq g177.symm))
    have ne186 : b93 ≠ b176 := Nat.ne_of_lt (Nat.lt_of_lt_of_le F168.lt (Nat.le_of_eq g177.symm))
    have ne187 : b132 ≠ b176 := Nat.ne_of_lt (Nat.lt_of_lt_of_le F170.lt (Nat.le_of_eq g177.symm))
    have ge188 : n0 ≤ b176 := Nat.le_trans sz172 (Nat.le_of_eq g177.symm)
    have gz189 : h0.size ≤ b176 := Nat.le_trans sy173 (Nat.le_of_eq g177.symm)
    have F190 : Fa Z h175 a .int 4 (up (up (up (up (fun _ => (.int (0 : Int32))) 0 (.int p0)) 1 (.int p1)) 2 (.int p2)) 3 (.int p3)) := F161.ext E178
    have F191 : Fa Z h175 b2 .int 4 (fun j => (.int (cn [p3, p2, p1, p0] j))) := F162.ext E178
    have F192 : Exa Z h175 b15 "[[I" := F163.ext E178
    have F193 : Exa Z h175 b30 "[I" := F164.ext E178
    have F194 : Fa Z h175 b30 .int (cn [p3, p2, p1, p0] 0).toNatClampNeg (fun _ => (.int (0 : Int32))) := F165.ext E178
    have F195 : Exa Z h175 b59 "[I" := F166.ext E178
    have F196 : Fa Z h175 b59 .int (cn [p3, p2, p1, p0] 1).toNatClampNeg (fun _ => (.int (0 : Int32))) := F167.ext E178
    have F197 : Exa Z h175 b93 "[I" := F168.ext E178
    have F198 : Fa Z h175 b93 .int (cn [p3, p2, p1, p0] 2).toNatClampNeg (fun _ => (.int (0 : Int32))) := F169.ext E178
    have F199 : Exa Z h175 b132 "[I" := F170.ext E178
    have F200 : Fa Z h175 b132 .int (cn [p3, p2, p1, p0] 3).toNatClampNeg (fun _ => (.int (0 : Int32))) := F171.ext E178
    have F201 : FaA Z h175 b15 .int "[I" 4 (up (up (up (up (fun _ => .null) 0 (.ref b30)) 1 (.ref b59)) 2 (.ref b93)) 3 (.ref b132)) := F160.ext E178
    have sz202 : n0 ≤ h175.size := Nat.le_trans sz172 E178.1
    have sy203 : h0.size ≤ h175.size := Nat.le_trans sy173 E178.1
    have K204 := K174.ext E178
    show Wk _ p l e _ s m _ below meth c n0 _ h175 7 28 (mkF m 68 #[.val (.ref a), .val (.int (4 : Int32)), .val (.ref b2), .val (.ref b15), .val (.int (4 : Int32)), .unset] [(.ref b176)])
    refine Wk.st (g' := (mkF m 70 #[.val (.ref a), .val (.int (4 : Int32)), .val (.ref b2), .val (.ref b15), .val (.ref b176), .unset] [])) (fun X t q => XS.astore X.here C.hx rfl (hb C.hby d2_68) rfl rfl (l' := #[.val (.ref a), .val (.int (4 : Int32)), .val (.ref b2), .val (.ref b15), .val (.ref b176), .unset]) rfl q) ?_
    refine Wk.st (g' := (mkF m 71 #[.val (.ref a), .val (.int (4 : Int32)), .val (.ref b2), .val (.ref b15), .val (.ref b176), .unset] [(.int (0 : Int32))])) (fun X t q => XS.iconst X.here C.hx rfl (hb C.hby d2_70) q) ?_
    refine Wk.st (g' := (mkF m 73 #[.val (.ref a), .val (.int (4 : Int32)), .val (.ref b2), .val (.ref b15), .val (.ref b176), .val (.int (0 : Int32))] [])) (fun X t q => XS.istore X.here C.hx rfl (hb C.hby d2_71) rfl (l' := #[.val (.ref a), .val (.int (4 : Int32)), .val (.ref b2), .val (.ref b15), .val (.ref b176), .val (.int (0 : Int32))]) rfl q) ?_
    have JB4 : ∀ (hB4 : Heap), n0 ≤ hB4.size → h0.size ≤ hB4.size → Keep h0 hB4 [] → Fa Z hB4 a .int 4 (up (up (up (up (fun _ => (.int (0 : Int32))) 0 (.int p0)) 1 (.int p1)) 2 (.int p2)) 3 (.int p3)) → FaA Z hB4 b15 .int "[I" 4 (up (up (up (up (fun _ => .null) 0 (.ref b30)) 1 (.ref b59)) 2 (.ref b93)) 3 (.ref b132)) → Fa Z hB4 b176 .int 4 (fun j => (.int (cn [p3, p2, p1, p0] j))) → Fa Z hB4 b30 .int (cn [p3, p2, p1, p0] 0).toNatClampNeg (fun t => (.int (gk [p3, p2, p1, p0] 0 t))) → Fa Z hB4 b59 .int (cn [p3, p2, p1, p0] 1).toNatClampNeg (fun t => (.int (gk [p3, p2, p1, p0] 1 t))) → Fa Z hB4 b93 .int (cn [p3, p2, p1, p0] 2).toNatClampNeg (fun t => (.int (gk [p3, p2, p1, p0] 2 t))) → Fa Z hB4 b132 .int (cn [p3, p2, p1, p0] 3).toNatClampNeg (fun t => (.int (gk [p3, p2, p1, p0] 3 t))) → Wk false p l e ({ frames := 0, cells := 8, slots := 32, locals := 0 } : Room) s m #[(.ref a)] below meth c n0 (fun v h => ∃ ch c0 c1 c2 c3 : Addr, v = some (.ref ch) ∧ Keep h0 h [] ∧ h0.size ≤ ch ∧ h0.size ≤ c0 ∧ h0.size ≤ c1 ∧ h0.size ≤ c2 ∧ h0.size ≤ c3 ∧ FaA Z h ch .int "[I" 4 (up (up (up (up (fun _ => .null) 0 (.ref c0)) 1 (.ref c1)) 2 (.ref c2)) 3 (.ref c3)) ∧ Fa Z h c0 .int (cn [p3, p2, p1, p0] 0).toNatClampNeg (fun t => (.int (gk [p3, p2, p1, p0] 0 t))) ∧ Fa Z h c1 .int (cn [p3, p2, p1, p0] 1).toNatClampNeg (fun t => (.int (gk [p3, p2, p1, p0] 1 t))) ∧ Fa Z h c2 .int (cn [p3, p2, p1, p0] 2).toNatClampNeg (fun t => (.int (gk [p3, p2, p1, p0] 2 t))) ∧ Fa Z h c3 .int (cn [p3, p2, p1, p0] 3).toNatClampNeg (fun t => (.int (gk [p3, p2, p1, p0] 3 t)))) hB4 7 28 (mkF m 73 #[.val (.ref a), .val (.int (4 : Int32)), .val (.ref b2), .val (.ref b15), .val (.ref b176), .val (.int (4 : Int32))] []) := by
      intro hB4 sz_B4 sz0_B4 K_B4 FB4_0 FB4_1 FB4_2 FB4_3 FB4_4 FB4_5 FB4_6
      refine Wk.st (g' := (mkF m 75 #[.val (.ref a), .val (.int (4 : Int32)), .val (.ref b2), .val (.ref b15), .val (.ref b176), .val (.int (4 : Int32))] [(.int (4 : Int32))])) (fun X t q => XS.iload X.here C.hx rfl (hb C.hby d2_73) rfl q) ?_
      refine Wk.st (g' := (mkF m 76 #[.val (.ref a), .val (.int (4 : Int32)), .val (.ref b2), .val (.ref b15), .val (.ref b176), .val (.int (4 : Int32))] [(.int (4 : Int32)), (.int (4 : Int32))])) (fun X t q => XS.iloadN X.here C.hx rfl (hb C.hby d2_75) rfl q) ?_
      refine Wk.st (g' := (mkF m 113 #[.val (.ref a), .val (.int (4 : Int32)), .val (.ref b2), .val (.ref b15), .val (.ref b176), .val (.int (4 : Int32))] [])) (fun X t q => XS.icmpYes X.here C.hx rfl (pc0 := 76) (pc' := 113) rfl (hb C.hby d2_76) rfl (XT.ii_ge_t (by decide)) (by decide) (by decide) q) ?_
      refine Wk.st (g' := (mkF m 114 #[.val (.ref a), .val (.int (4 : Int32)), .val (.ref b2), .val (.ref b15), .val (.ref b176), .val (.int (4 : Int32))] [(.ref b15)])) (fun X t q => XS.aloadN X.here C.hx rfl (hb C.hby d2_113) rfl rfl q) ?_
      exact Wk.retV C (t := (.array (.array .int))) rfl rfl (Or.inr (Or.inr (Or.inr (Or.inr ⟨rfl, rfl, rfl⟩)))) d2_114 (by decide) (by decide) ⟨b15, b30, b59, b93, b132, rfl, K_B4, gz23, gz39, gz69, gz104, gz144, FB4_1, FB4_3, FB4_4, FB4_5, FB4_6⟩
    have JB3 : ∀ (hB3 : Heap), n0 ≤ hB3.size → h0.size ≤ hB3.size → Keep h0 hB3 [] → Fa Z hB3 a .int 4 (up (up (up (up (fun _ => (.int (0 : Int32))) 0 (.int p0)) 1 (.int p1)) 2 (.int p2)) 3 (.int p3)) → FaA Z hB3 b15 .int "[I" 4 (up (up (up (up (fun _ => .null) 0 (.ref b30)) 1 (.ref b59)) 2 (.ref b93)) 3 (.ref b132)) → Fa Z hB3 b176 .int 4 (fun j => (.int (cn [p2, p1, p0] j))) → Fa Z hB3 b30 .int (cn [p3, p2, p1, p0] 0).toNatClampNeg (fun t => (.int (gk [p2, p1, p0] 0 t))) → Fa Z hB3 b59 .int (cn [p3, p2, p1, p0] 1).toNatClampNeg (fun t => (.int (gk [p2, p1, p0] 1 t))) → Fa Z hB3 b93 .int (cn [p3, p2, p1, p0] 2).toNatClampNeg (fun t => (.int (gk [p2, p1, p0] 2 t))) → Fa Z hB3 b132 .int (cn [p3, p2, p1, p0] 3).toNatClampNeg (fun t => (.int (gk [p2, p1, p0] 3 t))) → Wk false p l e ({ frames := 0, cells := 8, slots := 32, locals := 0 } : Room) s m #[(.ref a)] below meth c n0 (fun v h => ∃ ch c0 c1 c2 c3 : Addr, v = some (.ref ch) ∧ Keep h0 h [] ∧ h0.size ≤ ch ∧ h0.size ≤ c0 ∧ h0.size ≤ c1 ∧ h0.size ≤ c2 ∧ h0.size ≤ c3 ∧ FaA Z h ch .int "[I" 4 (up (up (up (up (fun _ => .null) 0 (.ref c0)) 1 (.ref c1)) 2 (.ref c2)) 3 (.ref c3)) ∧ Fa Z h c0 .int (cn [p3, p2, p1, p0] 0).toNatClampNeg (fun t => (.int (gk [p3, p2, p1, p0] 0 t))) ∧ Fa Z h c1 .int (cn [p3, p2, p1, p0] 1).toNatClampNeg (fun t => (.int (gk [p3, p2, p1, p0] 1 t))) ∧ Fa Z h c2 .int (cn [p3, p2, p1, p0] 2).toNatClampNeg (fun t => (.int (gk [p3, p2, p1, p0] 2 t))) ∧ Fa Z h c3 .int (cn [p3, p2, p1, p0] 3).toNatClampNeg (fun t => (.int (gk [p3, p2, p1, p0] 3 t)))) hB3 7 28 (mkF m 73 #[.val (.ref a), .val (.int (4 : Int32)), .val (.ref b2), .val (.ref b15), .val (.ref b176), .val (.int (3 : Int32))] []) := by
      intro hB3 sz_B3 sz0_B3 K_B3 FB3_0 FB3_1 FB3_2 FB3_3 FB3_4 FB3_5 FB3_6
      refine Wk.st (g' := (mkF m 75 #[.val (.ref a), .val (.int (4 : Int32)), .val (.ref b2), .val (.ref b15), .val (.ref b176), .val (.int (3 : Int32))] [(.int (3 : Int32))])) (fun X t q => XS.iload X.here C.hx rfl (hb C.hby d2_73) rfl q) ?_
      refine Wk.st (g' := (mkF m 76 #[.val (.ref a), .val (.int (4 : Int32)), .val (.ref b2), .val (.ref b15), .val (.ref b176), .val (.int (3 : Int32))] [(.int (4 : Int32)), (.int (3 : Int32))])) (fun X t q => XS.iloadN X.here C.hx rfl (hb C.hby d2_75) rfl q) ?_
      refine Wk.st (g' := (mkF m 79 #[.val (.ref a), .val (.int (4 : Int32)), .val (.ref b2), .val (.ref b15), .val (.ref b176), .val (.int (3 : Int32))] [])) (fun X t q => XS.icmpNo X.here C.hx rfl (hb C.hby d2_76) rfl (XT.ii_ge_f (by decide)) q) ?_
      refine Wk.st (g' := (mkF m 80 #[.val (.ref a), .val (.int (4 : Int32)), .val (.ref b2), .val (.ref b15), .val (.ref b176), .val (.int (3 : Int32))] [(.ref a)])) (fun X t q => XS.aloadN X.here C.hx rfl (hb C.hby d2_79) rfl rfl q) ?_
      refine Wk.st (g' := (mkF m 82 #[.val (.ref a), .val (.int (4 : Int32)), .val (.ref b2), .val (.ref b15), .val (.ref b176), .val (.int (3 : Int32))] [(.int (3 : Int32)), (.ref a)])) (fun X t q => XS.iload X.here C.hx rfl (hb C.hby d2_80) rfl q) ?_
      refine Wk.fLdI C FB3_0 (i := 3) (by decide) (by decide) (by decide) (v := (.int p3)) (by simp [up]) d2_82 ?_
      show Wk _ p l e _ s m _ below meth c n0 _ hB3 7 28 (mkF m 83 #[.val (.ref a), .val (.int (4 : Int32)), .val (.ref b2), .val (.ref b15), .val (.ref b176), .val (.int (3 : Int32))] [(.int p3)])
      by_cases hb205 : p3 < (0 : Int32)
      · skip
        refine Wk.st (g' := (mkF m 107 #[.val (.ref a), .val (.int (4 : Int32)), .val (.ref b2), .val (.ref b15), .val (.ref b176), .val (.int (3 : Int32))] [])) (fun X t q => XS.ifYes X.here C.hx rfl (pc0 := 83) (pc' := 107) rfl (hb C.hby d2_83) rfl (XT.i0_lt_t hb205) (by decide) (by decide) q) ?_
        refine Wk.st (g' := (mkF m 110 #[.val (.ref a), .val (.int (4 : Int32)), .val (.ref b2), .val (.ref b15), .val (.ref b176), .val (.int (4 : Int32))] [])) (fun X t q => XS.iinc X.here C.hx rfl (hb C.hby d2_107) rfl (l' := #[.val (.ref a), .val (.int (4 : Int32)), .val (.ref b2), .val (.ref b15), .val (.ref b176), .val (.int (4 : Int32))]) rfl q) ?_
        refine Wk.st (g' := (mkF m 73 #[.val (.ref a), .val (.int (4 : Int32)), .val (.ref b2), .val (.ref b15), .val (.ref b176), .val (.int (4 : Int32))] [])) (fun X t q => XS.goto X.here C.hx rfl (pc0 := 110) (pc' := 73) rfl (hb C.hby d2_110) (by decide) (by decide) q) ?_
        exact JB4 hB3 sz_B3 sz0_B3 K_B3 FB3_0 FB3_1 (FB3_2.congr (fun j hj => no_cn (neg_ne hb205 j))) (FB3_3.congr (fun t ht => no_gk (neg_ne hb205 0))) (FB3_4.congr (fun t ht => no_gk (neg_ne hb205 1))) (FB3_5.congr (fun t ht => no_gk (neg_ne hb205 2))) (FB3_6.congr (fun t ht => no_gk (neg_ne hb205 3)))
      · skip
        refine Wk.st (g' := (mkF m 86 #[.val (.ref a), .val (.int (4 : Int32)), .val (.ref b2), .val (.ref b15), .val (.ref b176), .val (.int (3 : Int32))] [])) (fun X t q => XS.ifNo X.here C.hx rfl (hb C.hby d2_83) rfl (XT.i0_lt_f hb205) q) ?_
        refine Wk.st (g' := (mkF m 87 #[.val (.ref a), .val (.int (4 : Int32)), .val (.ref b2), .val (.ref b15), .val (.ref b176), .val (.int (3 : Int32))] [(.ref b15)])) (fun X t q => XS.aloadN X.here C.hx rfl (hb C.hby d2_86) rfl rfl q) ?_
        refine Wk.st (g' := (mkF m 88 #[.val (.ref a), .val (.int (4 : Int32)), .val (.ref b2), .val (.ref b15), .val (.ref b176), .val (.int (3 : Int32))] [(.ref a), (.ref b15)])) (fun X t q => XS.aloadN X.here C.hx rfl (hb C.hby d2_87) rfl rfl q) ?_
        refine Wk.st (g' := (mkF m 90 #[.val (.ref a), .val (.int (4 : Int32)), .val (.ref b2), .val (.ref b15), .val (.ref b176), .val (.int (3 : Int32))] [(.int (3 : Int32)), (.ref a), (.ref b15)])) (fun X t q => XS.iload X.here C.hx rfl (hb C.hby d2_88) rfl q) ?_
        refine Wk.fLdI C FB3_0 (i := 3) (by decide) (by decide) (by decide) (v := (.int p3)) (by simp [up]) d2_90 ?_
        show Wk _ p l e _ s m _ below meth c n0 _ hB3 7 28 (mkF m 91 #[.val (.ref a), .val (.int (4 : Int32)), .val (.ref b2), .val (.ref b15), .val (.ref b176), .val (.int (3 : Int32))] [(.int p3), (.ref b15)])
        rcases four hb205 r3 with hq | hq | hq | hq
        · skip
          refine Wk.fLdA C FB3_1 (by rw [hq] <;> decide) hb205 (by decide) (v := (.ref b30)) (by simp [up]) d2_91 ?_
          show Wk _ p l e _ s m _ below meth c n0 _ hB3 7 28 (mkF m 92 #[.val (.ref a), .val (.int (4 : Int32)), .val (.ref b2), .val (.ref b15), .val (.ref b176), .val (.int (3 : Int32))] [(.ref b30)])
          refine Wk.st (g' := (mkF m 94 #[.val (.ref a), .val (.int (4 : Int32)), .val (.ref b2), .val (.ref b15), .val (.ref b176), .val (.int (3 : Int32))] [(.ref b176), (.ref b30)])) (fun X t q => XS.aload X.here C.hx rfl (hb C.hby d2_92) rfl rfl q) ?_
          refine Wk.st (g' := (mkF m 95 #[.val (.ref a), .val (.int (4 : Int32)), .val (.ref b2), .val (.ref b15), .val (.ref b176), .val (.int (3 : Int32))] [(.ref a), (.ref b176), (.ref b30)])) (fun X t q => XS.aloadN X.here C.hx rfl (hb C.hby d2_94) rfl rfl q) ?_
          refine Wk.st (g' := (mkF m 97 #[.val (.ref a), .val (.int (4 : Int32)), .val (.ref b2), .val (.ref b15), .val (.ref b176), .val (.int (3 : Int32))] [(.int (3 : Int32)), (.ref a), (.ref b176), (.ref b30)])) (fun X t q => XS.iload X.here C.hx rfl (hb C.hby d2_95) rfl q) ?_
          refine Wk.fLdI C FB3_0 (i := 3) (by decide) (by decide) (by decide) (v := (.int p3)) (by simp [up]) d2_97 ?_
          show Wk _ p l e _ s m _ below meth c n0 _ hB3 7 28 (mkF m 98 #[.val (.ref a), .val (.int (4 : Int32)), .val (.ref b2), .val (.ref b15), .val (.ref b176), .val (.int (3 : Int32))] [(.int p3), (.ref b176), (.ref b30)])
          refine Wk.st (g' := (mkF m 99 #[.val (.ref a), .val (.int (4 : Int32)), .val (.ref b2), .val (.ref b15), .val (.ref b176), .val (.int (3 : Int32))] [(.int p3), (.ref b176), (.int p3), (.ref b176), (.ref b30)])) (fun X t q => XT.dup2 X.here C.hx rfl (hb C.hby d2_98) rfl rfl rfl q) ?_
          refine Wk.fLdI C FB3_2 (by rw [hq] <;> decide) hb205 (by decide) (v := (.int (cn [p2, p1, p0] 0))) rfl d2_99 ?_
          show Wk _ p l e _ s m _ below meth c n0 _ hB3 7 28 (mkF m 100 #[.val (.ref a), .val (.int (4 : Int32)), .val (.ref b2), .val (.ref b15), .val (.ref b176), .val (.int (3 : Int32))] [(.int (cn [p2, p1, p0] 0)), (.int p3), (.ref b176), (.ref b30)])
          refine Wk.st (g' := (mkF m 101 #[.val (.ref a), .val (.int (4 : Int32)), .val (.ref b2), .val (.ref b15), .val (.ref b176), .val (.int (3 : Int32))] [(.int (cn [p2, p1, p0] 0)), (.int p3), (.ref b176), (.int (cn [p2, p1, p0] 0)), (.ref b30)])) (fun X t q => dupX2 X.here C.hx rfl (hb C.hby d2_100) rfl rfl rfl rfl q) ?_
          refine Wk.st (g' := (mkF m 102 #[.val (.ref a), .val (.int (4 : Int32)), .val (.ref b2), .val (.ref b15), .val (.ref b176), .val (.int (3 : Int32))] [(.int (1 : Int32)), (.int (cn [p2, p1, p0] 0)), (.int p3), (.ref b176), (.int (cn [p2, p1, p0] 0)), (.ref b30)])) (fun X t q => XS.iconst X.here C.hx rfl (hb C.hby d2_101) q) ?_
          refine Wk.st (g' := (mkF m 103 #[.val (.ref a), .val (.int (4 : Int32)), .val (.ref b2), .val (.ref b15), .val (.ref b176), .val (.int (3 : Int32))] [(.int ((cn [p2, p1, p0] 0) + (1 : Int32))), (.int p3), (.ref b176), (.int (cn [p2, p1, p0] 0)), (.ref b30)])) (fun X t q => XS.iadd X.here C.hx rfl (hb C.hby d2_102) rfl q) ?_
          refine Wk.fStI C FB3_2 (by rw [hq] <;> decide) hb205 (by decide) ge188 d2_103 ?_
          intro h206 W207 F208
          have F209 : Fa Z h206 a .int 4 (up (up (up (up (fun _ => (.int (0 : Int32))) 0 (.int p0)) 1 (.int p1)) 2 (.int p2)) 3 (.int p3)) := FB3_0.other W207 ne181
          have F210 : FaA Z h206 b15 .int "[I" 4 (up (up (up (up (fun _ => .null) 0 (.ref b30)) 1 (.ref b59)) 2 (.ref b93)) 3 (.ref b132)) := FB3_1.other W207 ne183
          have F211 : Fa Z h206 b30 .int (cn [p3, p2, p1, p0] 0).toNatClampNeg (fun t => (.int (gk [p2, p1, p0] 0 t))) := FB3_3.other W207 ne184
          have F212 : Fa Z h206 b59 .int (cn [p3, p2, p1, p0] 1).toNatClampNeg (fun t => (.int (gk [p2, p1, p0] 1 t))) := FB3_4.other W207 ne185
          have F213 : Fa Z h206 b93 .int (cn [p3, p2, p1, p0] 2).toNatClampNeg (fun t => (.int (gk [p2, p1, p0] 2 t))) := FB3_5.other W207 ne186
          have F214 : Fa Z h206 b132 .int (cn [p3, p2, p1, p0] 3).toNatClampNeg (fun t => (.int (gk [p2, p1, p0] 3 t))) := FB3_6.other W207 ne187
          have sz215 : n0 ≤ h206.size := Nat.le_trans sz_B3 (Nat.le_of_eq W207.size.symm)
          have sy216 : h0.size ≤ h206.size := Nat.le_trans sz0_B3 (Nat.le_of_eq W207.size.symm)
          have K217 := K_B3.wr W207 (Or.inr gz189)
          show Wk _ p l e _ s m _ below meth c n0 _ h206 7 28 (mkF m 104 #[.val (.ref a), .val (.int (4 : Int32)), .val (.ref b2), .val (.ref b15), .val (.ref b176), .val (.int (3 : Int32))] [(.int (cn [p2, p1, p0] 0)), (.ref b30)])
          refine Wk.st (g' := (mkF m 106 #[.val (.ref a), .val (.int (4 : Int32)), .val (.ref b2), .val (.ref b15), .val (.ref b176), .val (.int (3 : Int32))] [(.int (3 : Int32)), (.int (cn [p2, p1, p0] 0)), (.ref b30)])) (fun X t q => XS.iload X.here C.hx rfl (hb C.hby d2_104) rfl q) ?_
          refine Wk.fStI C F211 rfl (cn_nn _ _ (Nat.le_of_ble_eq_true rfl)) (cn_lt (m := []) (p := p3) (l := [p2, p1, p0]) (Nat.le_of_ble_eq_true rfl) (by rw [hq] <;> rfl)) ge38 d2_106 ?_
          intro h218 W219 F220
          have F221 : Fa Z h218 a .int 4 (up (up (up (up (fun _ => (.int (0 : Int32))) 0 (.int p0)) 1 (.int p1)) 2 (.int p2)) 3 (.int p3)) := F209.other W219 ne35
          have F222 : FaA Z h218 b15 .int "[I" 4 (up (up (up (up (fun _ => .null) 0 (.ref b30)) 1 (.ref b59)) 2 (.ref b93)) 3 (.ref b132)) := F210.other W219 ne37
          have F223 : Fa Z h218 b59 .int (cn [p3, p2, p1, p0] 1).toNatClampNeg (fun t => (.int (gk [p2, p1, p0] 1 t))) := F212.other W219 (Ne.symm ne67)
          have F224 : Fa Z h218 b93 .int (cn [p3, p2, p1, p0] 2).toNatClampNeg (fun t => (.int (gk [p2, p1, p0] 2 t))) := F213.other W219 (Ne.symm ne101)
          have F225 : Fa Z h218 b132 .int (cn [p3, p2, p1, p0] 3).toNatClampNeg (fun t => (.int (gk [p2, p1, p0] 3 t))) := F214.other W219 (Ne.symm ne140)
          have F226 : Fa Z h218 b176 .int 4 (up (fun j => (.int (cn [p2, p1, p0] j))) 0 (.int ((cn [p2, p1, p0] 0) + (1 : Int32)))) := F208.other W219 (Ne.symm ne184)
          have sz227 : n0 ≤ h218.size := Nat.le_trans sz215 (Nat.le_of_eq W219.size.symm)
          have sy228 : h0.size ≤ h218.size := Nat.le_trans sy216 (Nat.le_of_eq W219.size.symm)
          have K229 := K217.wr W219 (Or.inr gz39)
          show Wk _ p l e _ s m _ below meth c n0 _ h218 7 28 (mkF m 107 #[.val (.ref a), .val (.int (4 : Int32)), .val (.ref b2), .val (.ref b15), .val (.ref b176), .val (.int (3 : Int32))] [])
          refine Wk.st (g' := (mkF m 110 #[.val (.ref a), .val (.int (4 : Int32)), .val (.ref b2), .val (.ref b15), .val (.ref b176), .val (.int (4 : Int32))] [])) (fun X t q => XS.iinc X.here C.hx rfl (hb C.hby d2_107) rfl (l' := #[.val (.ref a), .val (.int (4 : Int32)), .val (.ref b2), .val (.ref b15), .val (.ref b176), .val (.int (4 : Int32))]) rfl q) ?_
          refine Wk.st (g' := (mkF m 73 #[.val (.ref a), .val (.int (4 : Int32)), .val (.ref b2), .val (.ref b15), .val (.ref b176), .val (.int (4 : Int32))] [])) (fun X t q => XS.goto X.here C.hx rfl (pc0 := 110) (pc' := 73) rfl (hb C.hby d2_110) (by decide) (by decide) q) ?_
          exact JB4 h218 sz227 sy228 K229 F221 F222 (F226.congr (fun j hj => up_cn (by rw [hq] <;> rfl) j)) (F220.congr (fun t ht => up_gk (by rw [hq] <;> rfl) rfl t)) (F223.congr (fun t ht => no_gk (by rw [hq] <;> decide))) (F224.congr (fun t ht => no_gk (by rw [hq] <;> decide))) (F225.congr (fun t ht => no_gk (by rw [hq] <;> decide)))
        · skip
          refine Wk.fLdA C FB3_1 (by rw [hq] <;> decide) hb205 (by decide) (v := (.ref b59)) (by simp [up]) d2_91 ?_
          show Wk _ p l e _ s m _ below meth c n0 _ hB3 7 28 (mkF m 92 #[.val (.ref a), .val (.int (4 : Int32)), .val (.ref b2), .val (.ref b15), .val (.ref b176), .val (.int (3 : Int32))] [(.ref b59)])
          refine Wk.st (g' := (mkF m 94 #[.val (.ref a), .val (.int (4 : Int32)), .val (.ref b2), .val (.ref b15), .val (.ref b176), .val (.int (3 : Int32))] [(.ref b176), (.ref b59)])) (fun X t q => XS.aload X.here C.hx rfl (hb C.hby d2_92) rfl rfl q) ?_
          refine Wk.st (g' := (mkF m 95 #[.val (.ref a), .val (.int (4 : Int32)), .val (.ref b2), .val (.ref b15), .val (.ref b176), .val (.int (3 : Int32))] [(.ref a), (.ref b176), (.ref b59)])) (fun X t q => XS.aloadN X.here C.hx rfl (hb C.hby d2_94) rfl rfl q) ?_
          refine Wk.st (g' := (mkF m 97 #[.val (.ref a), .val (.int (4 : Int32)), .val (.ref b2), .val (.ref b15), .val (.ref b176), .val (.int (3 : Int32))] [(.int (3 : Int32)), (.ref a), (.ref b176), (.ref b59)])) (fun X t q => XS.iload X.here C.hx rfl (hb C.hby d2_95) rfl q) ?_
          refine Wk.fLdI C FB3_0 (i := 3) (by decide) (by decide) (by decide) (v := (.int p3)) (by simp [up]) d2_97 ?_
          show Wk _ p l e _ s m _ below meth c n0 _ hB3 7 28 (mkF m 98 #[.val (.ref a), .val (.int (4 : Int32)), .val (.ref b2), .val (.ref b15), .val (.ref b176), .val (.int (3 : Int32))] [(.int p3), (.ref b176), (.ref b59)])
          refine Wk.st (g' := (mkF m 99 #[.val (.ref a), .val (.int (4 : Int32)), .val (.ref b2), .val (.ref b15), .val (.ref b176), .val (.int (3 : Int32))] [(.int p3), (.ref b176), (.int p3), (.ref b176), (.ref b59)])) (fun X t q => XT.dup2 X.here C.hx rfl (hb C.hby d2_98) rfl rfl rfl q) ?_
          refine Wk.fLdI C FB3_2 (by rw [hq] <;> decide) hb205 (by decide) (v := (.int (cn [p2, p1, p0] 1))) rfl d2_99 ?_
          show Wk _ p l e _ s m _ below meth c n0 _ hB3 7 28 (mkF m 100 #[.val (.ref a), .val (.int (4 : Int32)), .val (.ref b2), .val (.ref b15), .val (.ref b176), .val (.int (3 : Int32))] [(.int (cn [p2, p1, p0] 1)), (.int p3), (.ref b176), (.ref b59)])
          refine Wk.st (g' := (mkF m 101 #[.val (.ref a), .val (.int (4 : Int32)), .val (.ref b2), .val (.ref b15), .val (.ref b176), .val (.int (3 : Int32))] [(.int (cn [p2, p1, p0] 1)), (.int p3), (.ref b176), (.int (cn [p2, p1, p0] 1)), (.ref b59)])) (fun X t q => dupX2 X.here C.hx rfl (hb C.hby d2_100) rfl rfl rfl rfl q) ?_
          refine Wk.st (g' := (mkF m 102 #[.val (.ref a), .val (.int (4 : Int32)), .val (.ref b2), .val (.ref b15), .val (.ref b176), .val (.int (3 : Int32))] [(.int (1 : Int32)), (.int (cn [p2, p1, p0] 1)), (.int p3), (.ref b176), (.int (cn [p2, p1, p0] 1)), (.ref b59)])) (fun X t q => XS.iconst X.here C.hx rfl (hb C.hby d2_101) q) ?_
          refine Wk.st (g' := (mkF m 103 #[.val (.ref a), .val (.int (4 : Int32)), .val (.ref b2), .val (.ref b15), .val (.ref b176), .val (.int (3 : Int32))] [(.int ((cn [p2, p1, p0] 1) + (1 : Int32))), (.int p3), (.ref b176), (.int (cn [p2, p1, p0] 1)), (.ref b59)])) (fun X t q => XS.iadd X.here C.hx rfl (hb C.hby d2_102) rfl q) ?_
          refine Wk.fStI C FB3_2 (by rw [hq] <;> decide) hb205 (by decide) ge188 d2_103 ?_
          intro h230 W231 F232
          have F233 : Fa Z h230 a .int 4 (up (up (up (up (fun _ => (.int (0 : Int32))) 0 (.int p0)) 1 (.int p1)) 2 (.int p2)) 3 (.int p3)) := FB3_0.other W231 ne181
          have F234 : FaA Z h230 b15 .int "[I" 4 (up (up (up (up (fun _ => .null) 0 (.ref b30)) 1 (.ref b59)) 2 (.ref b93)) 3 (.ref b132)) := FB3_1.other W231 ne183
          have F235 : Fa Z h230 b30 .int (cn [p3, p2, p1, p0] 0).toNatClampNeg (fun t => (.int (gk [p2, p1, p0] 0 t))) := FB3_3.other W231 ne184
          have F236 : Fa Z h230 b59 .int (cn [p3, p2, p1, p0] 1).toNatClampNeg (fun t => (.int (gk [p2, p1, p0] 1 t))) := FB3_4.other W231 ne185
          have F237 : Fa Z h230 b93 .int (cn [p3, p2, p1, p0] 2).toNatClampNeg (fun t => (.int (gk [p2, p1, p0] 2 t))) := FB3_5.other W231 ne186
          have F238 : Fa Z h230 b132 .int (cn [p3, p2, p1, p0] 3).toNatClampNeg (fun t => (.int (gk [p2, p1, p0] 3 t))) := FB3_6.other W231 ne187
          have sz239 : n0 ≤ h230.size := Nat.le_trans sz_B3 (Nat.le_of_eq W231.size.symm)
          have sy240 : h0.size ≤ h230.size := Nat.le_trans sz0_B3 (Nat.le_of_eq W231.size.symm)
          have K241 := K_B3.wr W231 (Or.inr gz189)
          show Wk _ p l e _ s m _ below meth c n0 _ h230 7 28 (mkF m 104 #[.val (.ref a), .val (.int (4 : Int32)), .val (.ref b2), .val (.ref b15), .val (.ref b176), .val (.int (3 : Int32))] [(.int (cn [p2, p1, p0] 1)), (.ref b59)])
          refine Wk.st (g' := (mkF m 106 #[.val (.ref a), .val (.int (4 : Int32)), .val (.ref b2), .val (.ref b15), .val (.ref b176), .val (.int (3 : Int32))] [(.int (3 : Int32)), (.int (cn [p2, p1, p0] 1)), (.ref b59)])) (fun X t q => XS.iload X.here C.hx rfl (hb C.hby d2_104) rfl q) ?_
          refine Wk.fStI C F236 rfl (cn_nn _ _ (Nat.le_of_ble_eq_true rfl)) (cn_lt (m := []) (p := p3) (l := [p2, p1, p0]) (Nat.le_of_ble_eq_true rfl) (by rw [hq] <;> rfl)) ge68 d2_106 ?_
          intro h242 W243 F244
          have F245 : Fa Z h242 a .int 4 (up (up (up (up (fun _ => (.int (0 : Int32))) 0 (.int p0)) 1 (.int p1)) 2 (.int p2)) 3 (.int p3)) := F233.other W243 ne64
          have F246 : FaA Z h242 b15 .int "[I" 4 (up (up (up (up (fun _ => .null) 0 (.ref b30)) 1 (.ref b59)) 2 (.ref b93)) 3 (.ref b132)) := F234.other W243 ne66
          have F247 : Fa Z h242 b30 .int (cn [p3, p2, p1, p0] 0).toNatClampNeg (fun t => (.int (gk [p2, p1, p0] 0 t))) := F235.other W243 ne67
          have F248 : Fa Z h242 b93 .int (cn [p3, p2, p1, p0] 2).toNatClampNeg (fun t => (.int (gk [p2, p1, p0] 2 t))) := F237.other W243 (Ne.symm ne102)
          have F249 : Fa Z h242 b132 .int (cn [p3, p2, p1, p0] 3).toNatClampNeg (fun t => (.int (gk [p2, p1, p0] 3 t))) := F238.other W243 (Ne.symm ne141)
          have F250 : Fa Z h242 b176 .int 4 (up (fun j => (.int (cn [p2, p1, p0] j))) 1 (.int ((cn [p2, p1, p0] 1) + (1 : Int32)))) := F232.other W243 (Ne.symm ne185)
          have sz251 : n0 ≤ h242.size := Nat.le_trans sz239 (Nat.le_of_eq W243.size.symm)
          have sy252 : h0.size ≤ h242.size := Nat.le_trans sy240 (Nat.le_of_eq W243.size.symm)
          have K253 := K241.wr W243 (Or.inr gz69)
          show Wk _ p l e _ s m _ below meth c n0 _ h242 7 28 (mkF m 107 #[.val (.ref a), .val (.int (4 : Int32)), .val (.ref b2), .val (.ref b15), .val (.ref b176), .val (.int (3 : Int32))] [])
          refine Wk.st (g' := (mkF m 110 #[.val (.ref a), .val (.int (4 : Int32)), .val (.ref b2), .val (.ref b15), .val (.ref b176), .val (.int (4 : Int32))] [])) (fun X t q => XS.iinc X.here C.hx rfl (hb C.hby d2_107) rfl (l' := #[.val (.ref a), .val (.int (4 : Int32)), .val (.ref b2), .val (.ref b15), .val (.ref b176), .val (.int (4 : Int32))]) rfl q) ?_
          refine Wk.st (g' := (mkF m 73 #[.val (.ref a), .val (.int (4 : Int32)), .val (.ref b2), .val (.ref b15), .val (.ref b176), .val (.int (4 : Int32))] [])) (fun X t q => XS.goto X.here C.hx rfl (pc0 := 110) (pc' := 73) rfl (hb C.hby d2_110) (by decide) (by decide) q) ?_
          exact JB4 h242 sz251 sy252 K253 F245 F246 (F250.congr (fun j hj => up_cn (by rw [hq] <;> rfl) j)) (F247.congr (fun t ht => no_gk (by rw [hq] <;> decide))) (F244.congr (fun t ht => up_gk (by rw [hq] <;> rfl) rfl t)) (F248.congr (fun t ht => no_gk (by rw [hq] <;> decide))) (F249.congr (fun t ht => no_gk (by rw [hq] <;> decide)))
        · skip
          refine Wk.fLdA C FB3_1 (by rw [hq] <;> decide) hb205 (by decide) (v := (.ref b93)) (by simp [up]) d2_91 ?_
          show Wk _ p l e _ s m _ below meth c n0 _ hB3 7 28 (mkF m 92 #[.val (.ref a), .val (.int (4 : Int32)), .val (.ref b2), .val (.ref b15), .val (.ref b176), .val (.int (3 : Int32))] [(.ref b93)])
          refine Wk.st (g' := (mkF m 94 #[.val (.ref a), .val (.int (4 : Int32)), .val (.ref b2), .val (.ref b15), .val (.ref b176), .val (.int (3 : Int32))] [(.ref b176), (.ref b93)])) (fun X t q => XS.aload X.here C.hx rfl (hb C.hby d2_92) rfl rfl q) ?_
          refine Wk.st (g' := (mkF m 95 #[.val (.ref a), .val (.int (4 : Int32)), .val (.ref b2), .val (.ref b15), .val (.ref b176), .val (.int (3 : Int32))] [(.ref a), (.ref b176), (.ref b93)])) (fun X t q => XS.aloadN X.here C.hx rfl (hb C.hby d2_94) rfl rfl q) ?_
          refine Wk.st (g' := (mkF m 97 #[.val (.ref a), .val (.int (4 : Int32)), .val (.ref b2), .val (.ref b15), .val (.ref b176), .val (.int (3 : Int32))] [(.int (3 : Int32)), (.ref a), (.ref b176), (.ref b93)])) (fun X t q => XS.iload X.here C.hx rfl (hb C.hby d2_95) rfl q) ?_
          refine Wk.fLdI C FB3_0 (i := 3) (by decide) (by decide) (by decide) (v := (.int p3)) (by simp [up]) d2_97 ?_
          show Wk _ p l e _ s m _ below meth c n0 _ hB3 7 28 (mkF m 98 #[.val (.ref a), .val (.int (4 : Int32)), .val (.ref b2), .val (.ref b15), .val (.ref b176), .val (.int (3 : Int32))] [(.int p3), (.ref b176), (.ref b93)])
          refine Wk.st (g' := (mkF m 99 #[.val (.ref a), .val (.int (4 : Int32)), .val (.ref b2), .val (.ref b15), .val (.ref b176), .val (.int (3 : Int32))] [(.int p3), (.ref b176), (.int p3), (.ref b176), (.ref b93)])) (fun X t q => XT.dup2 X.here C.hx rfl (hb C.hby d2_98) rfl rfl rfl q) ?_
          refine Wk.fLdI C FB3_2 (by rw [hq] <;> decide) hb205 (by decide) (v := (.int (cn [p2, p1, p0] 2))) rfl d2_99 ?_
          show Wk _ p l e _ s m _ below meth c n0 _ hB3 7 28 (mkF m 100 #[.val (.ref a), .val (.int (4 : Int32)), .val (.ref b2), .val (.ref b15), .val (.ref b176), .val (.int (3 : Int32))] [(.int (cn [p2, p1, p0] 2)), (.int p3), (.ref b176), (.ref b93)])
          refine Wk.st (g' := (mkF m 101 #[.val (.ref a), .val (.int (4 : Int32)), .val (.ref b2), .val (.ref b15), .val (.ref b176), .val (.int (3 : Int32))] [(.int (cn [p2, p1, p0] 2)), (.int p3), (.ref b176), (.int (cn [p2, p1, p0] 2)), (.ref b93)])) (fun X t q => dupX2 X.here C.hx rfl (hb C.hby d2_100) rfl rfl rfl rfl q) ?_
          refine Wk.st (g' := (mkF m 102 #[.val (.ref a), .val (.int (4 : Int32)), .val (.ref b2), .val (.ref b15), .val (.ref b176), .val (.int (3 : Int32))] [(.int (1 : Int32)), (.int (cn [p2, p1, p0] 2)), (.int p3), (.ref b176), (.int (cn [p2, p1, p0] 2)), (.ref b93)])) (fun X t q => XS.iconst X.here C.hx rfl (hb C.hby d2_101) q) ?_
          refine Wk.st (g' := (mkF m 103 #[.val (.ref a), .val (.int (4 : Int32)), .val (.ref b2), .val (.ref b15), .val (.ref b176), .val (.int (3 : Int32))] [(.int ((cn [p2, p1, p0] 2) + (1 : Int32))), (.int p3), (.ref b176), (.int (cn [p2, p1, p0] 2)), (.ref b93)])) (fun X t q => XS.iadd X.here C.hx rfl (hb C.hby d2_102) rfl q) ?_
          refine Wk.fStI C FB3_2 (by rw [hq] <;> decide) hb205 (by decide) ge188 d2_103 ?_
          intro h254 W255 F256
          have F257 : Fa Z h254 a .int 4 (up (up (up (up (fun _ => (.int (0 : Int32))) 0 (.int p0)) 1 (.int p1)) 2 (.int p2)) 3 (.int p3)) := FB3_0.other W255 ne181
          have F258 : FaA Z h254 b15 .int "[I" 4 (up (up (up (up (fun _ => .null) 0 (.ref b30)) 1 (.ref b59)) 2 (.ref b93)) 3 (.ref b132)) := FB3_1.other W255 ne183
          have F259 : Fa Z h254 b30 .int (cn [p3, p2, p1, p0] 0).toNatClampNeg (fun t => (.int (gk [p2, p1, p0] 0 t))) := FB3_3.other W255 ne184
          have F260 : Fa Z h254 b59 .int (cn [p3, p2, p1, p0] 1).toNatClampNeg (fun t => (.int (gk [p2, p1, p0] 1 t))) := FB3_4.other W255 ne185
          have F261 : Fa Z h254 b93 .int (cn [p3, p2, p1, p0] 2).toNatClampNeg (fun t => (.int (gk [p2, p1, p0] 2 t))) := FB3_5.other W255 ne186
          have F262 : Fa Z h254 b132 .int (cn [p3, p2, p1, p0] 3).toNatClampNeg (fun t => (.int (gk [p2, p1, p0] 3 t))) := FB3_6.other W255 ne187
          have sz263 : n0 ≤ h254.size := Nat.le_trans sz_B3 (Nat.le_of_eq W255.size.symm)
          have sy264 : h0.size ≤ h254.size := Nat.le_trans sz0_B3 (Nat.le_of_eq W255.size.symm)
          have K265 := K_B3.wr W255 (Or.inr gz189)
          show Wk _ p l e _ s m _ below meth c n0 _ h254 7 28 (mkF m 104 #[.val (.ref a), .val (.int (4 : Int32)), .val (.ref b2), .val (.ref b15), .val (.ref b176), .val (.int (3 : Int32))] [(.int (cn [p2, p1, p0] 2)), (.ref b93)])
          refine Wk.st (g' := (mkF m 106 #[.val (.ref a), .val (.int (4 : Int32)), .val (.ref b2), .val (.ref b15), .val (.ref b176), .val (.int (3 : Int32))] [(.int (3 : Int32)), (.int (cn [p2, p1, p0] 2)), (.ref b93)])) (fun X t q => XS.iload X.here C.hx rfl (hb C.hby d2_104) rfl q) ?_
          refine Wk.fStI C F261 rfl (cn_nn _ _ (Nat.le_of_ble_eq_true rfl)) (cn_lt (m := []) (p := p3) (l := [p2, p1, p0]) (Nat.le_of_ble_eq_true rfl) (by rw [hq] <;> rfl)) ge103 d2_106 ?_
          intro h266 W267 F268
          have F269 : Fa Z h266 a .int 4 (up (up (up (up (fun _ => (.int (0 : Int32))) 0 (.int p0)) 1 (.int p1)) 2 (.int p2)) 3 (.int p3)) := F257.other W267 ne98
          have F270 : FaA Z h266 b15 .int "[I" 4 (up (up (up (up (fun _ => .null) 0 (.ref b30)) 1 (.ref b59)) 2 (.ref b93)) 3 (.ref b132)) := F258.other W267 ne100
          have F271 : Fa Z h266 b30 .int (cn [p3, p2, p1, p0] 0).toNatClampNeg (fun t => (.int (gk [p2, p1, p0] 0 t))) := F259.other W267 ne101
          have F272 : Fa Z h266 b59 .int (cn [p3, p2, p1, p0] 1).toNatClampNeg (fun t => (.int (gk [p2, p1, p0] 1 t))) := F260.other W267 ne102
          have F273 : Fa Z h266 b132 .int (cn [p3, p2, p1, p0] 3).toNatClampNeg (fun t => (.int (gk [p2, p1, p0] 3 t))) := F262.other W267 (Ne.symm ne142)
          have F274 : Fa Z h266 b176 .int 4 (up (fun j => (.int (cn [p2, p1, p0] j))) 2 (.int ((cn [p2, p1, p0] 2) + (1 : Int32)))) := F256.other W267 (Ne.symm ne186)
          have sz275 : n0 ≤ h266.size := Nat.le_trans sz263 (Nat.le_of_eq W267.size.symm)
          have sy276 : h0.size ≤ h266.size := Nat.le_trans sy264 (Nat.le_of_eq W267.size.symm)
          have K277 := K265.wr W267 (Or.inr gz104)
          show Wk _ p l e _ s m _ below meth c n0 _ h266 7 28 (mkF m 107 #[.val (.ref a), .val (.int (4 : Int32)), .val (.ref b2), .val (.ref b15), .val (.ref b176), .val (.int (3 : Int32))] [])
          refine Wk.st (g' := (mkF m 110 #[.val (.ref a), .val (.int (4 : Int32)), .val (.ref b2), .val (.ref b15), .val (.ref b176), .val (.int (4 : Int32))] [])) (fun X t q => XS.iinc X.here C.hx rfl (hb C.hby d2_107) rfl (l' := #[.val (.ref a), .val (.int (4 : Int32)), .val (.ref b2), .val (.ref b15), .val (.ref b176), .val (.int (4 : Int32))]) rfl q) ?_
          refine Wk.st (g' := (mkF m 73 #[.val (.ref a), .val (.int (4 : Int32)), .val (.ref b2), .val (.ref b15), .val (.ref b176), .val (.int (4 : Int32))] [])) (fun X t q => XS.goto X.here C.hx rfl (pc0 := 110) (pc' := 73) rfl (hb C.hby d2_110) (by decide) (by decide) q) ?_
          exact JB4 h266 sz275 sy276 K277 F269 F270 (F274.congr (fun j hj => up_cn (by rw [hq] <;> rfl) j)) (F271.congr (fun t ht => no_gk (by rw [hq] <;> decide))) (F272.congr (fun t ht => no_gk (by rw [hq] <;> decide))) (F268.congr (fun t ht => up_gk (by rw [hq] <;> rfl) rfl t)) (F273.congr (fun t ht => no_gk (by rw [hq] <;> decide)))
        · skip
          refine Wk.fLdA C FB3_1 (by rw [hq] <;> decide) hb205 (by decide) (v := (.ref b132)) (by simp [up]) d2_91 ?_
          show Wk _ p l e _ s m _ below meth c n0 _ hB3 7 28 (mkF m 92 #[.val (.ref a), .val (.int (4 : Int32)), .val (.ref b2), .val (.ref b15), .val (.ref b176), .val (.int (3 : Int32))] [(.ref b132)])
          refine Wk.st (g' := (mkF m 94 #[.val (.ref a), .val (.int (4 : Int32)), .val (.ref b2), .val (.ref b15), .val (.ref b176), .val (.int (3 : Int32))] [(.ref b176), (.ref b132)])) (fun X t q => XS.aload X.here C.hx rfl (hb C.hby d2_92) rfl rfl q) ?_
          refine Wk.st (g' := (mkF m 95 #[.val (.ref a), .val (.int (4 : Int32)), .val (.ref b2), .val (.ref b15), .val (.ref b176), .val (.int (3 : Int32))] [(.ref a), (.ref b176), (.ref b132)])) (fun X t q => XS.aloadN X.here C.hx rfl (hb C.hby d2_94) rfl rfl q) ?_
          refine Wk.st (g' := (mkF m 97 #[.val (.ref a), .val (.int (4 : Int32)), .val (.ref b2), .val (.ref b15), .val (.ref b176), .val (.int (3 : Int32))] [(.int (3 : Int32)), (.ref a), (.ref b176), (.ref b132)])) (fun X t q => XS.iload X.here C.hx rfl (hb C.hby d2_95) rfl q) ?_
          refine Wk.fLdI C FB3_0 (i := 3) (by decide) (by decide) (by decide) (v := (.int p3)) (by simp [up]) d2_97 ?_
          show Wk _ p l e _ s m _ below meth c n0 _ hB3 7 28 (mkF m 98 #[.val (.ref a), .val (.int (4 : Int32)), .val (.ref b2), .val (.ref b15), .val (.ref b176), .val (.int (3 : Int32))] [(.int p3), (.ref b176), (.ref b132)])
          refine Wk.st (g' := (mkF m 99 #[.val (.ref a), .val (.int (4 : Int32)), .val (.ref b2), .val (.ref b15), .val (.ref b176), .val (.int (3 : Int32))] [(.int p3), (.ref b176), (.int p3), (.ref b176), (.ref b132)])) (fun X t q => XT.dup2 X.here C.hx rfl (hb C.hby d2_98) rfl rfl rfl q) ?_
          refine Wk.fLdI C FB3_2 (by rw [hq] <;> decide) hb205 (by decide) (v := (.int (cn [p2, p1, p0] 3))) rfl d2_99 ?_
          show Wk _ p l e _ s m _ below meth c n0 _ hB3 7 28 (mkF m 100 #[.val (.ref a), .val (.int (4 : Int32)), .val (.ref b2), .val (.ref b15), .val (.ref b176), .val (.int (3 : Int32))] [(.int (cn [p2, p1, p0] 3)), (.int p3), (.ref b176), (.ref b132)])
          refine Wk.st (g' := (mkF m 101 #[.val (.ref a), .val (.int (4 : Int32)), .val (.ref b2), .val (.ref b15), .val (.ref b176), .val (.int (3 : Int32))] [(.int (cn [p2, p1, p0] 3)), (.int p3), (.ref b176), (.int (cn [p2, p1, p0] 3)), (.ref b132)])) (fun X t q => dupX2 X.here C.hx rfl (hb C.hby d2_100) rfl rfl rfl rfl q) ?_
          refine Wk.st (g' := (mkF m 102 #[.val (.ref a), .val (.int (4 : Int32)), .val (.ref b2), .val (.ref b15), .val (.ref b176), .val (.int (3 : Int32))] [(.int (1 : Int32)), (.int (cn [p2, p1, p0] 3)), (.int p3), (.ref b176), (.int (cn [p2, p1, p0] 3)), (.ref b132)])) (fun X t q => XS.iconst X.here C.hx rfl (hb C.hby d2_101) q) ?_
          refine Wk.st (g' := (mkF m 103 #[.val (.ref a), .val (.int (4 : Int32)), .val (.ref b2), .val (.ref b15), .val (.ref b176), .val (.int (3 : Int32))] [(.int ((cn [p2, p1, p0] 3) + (1 : Int32))), (.int p3), (.ref b176), (.int (cn [p2, p1, p0] 3)), (.ref b132)])) (fun X t q => XS.iadd X.here C.hx rfl (hb C.hby d2_102) rfl q) ?_
          refine Wk.fStI C FB3_2 (by rw [hq] <;> decide) hb205 (by decide) ge188 d2_103 ?_
          intro h278 W279 F280
          have F281 : Fa Z h278 a .int 4 (up (up (up (up (fun _ => (.int (0 : Int32))) 0 (.int p0)) 1 (.int p1)) 2 (.int p2)) 3 (.int p3)) := FB3_0.other W279 ne181
          have F282 : FaA Z h278 b15 .int "[I" 4 (up (up (up (up (fun _ => .null) 0 (.ref b30)) 1 (.ref b59)) 2 (.ref b93)) 3 (.ref b132)) := FB3_1.other W279 ne183
          have F283 : Fa Z h278 b30 .int (cn [p3, p2, p1, p0] 0).toNatClampNeg (fun t => (.int (gk [p2, p1, p0] 0 t))) := FB3_3.other W279 ne184
          have F284 : Fa Z h278 b59 .int (cn [p3, p2, p1, p0] 1).toNatClampNeg (fun t => (.int (gk [p2, p1, p0] 1 t))) := FB3_4.other W279 ne185
          have F285 : Fa Z h278 b93 .int (cn [p3, p2, p1, p0] 2).toNatClampNeg (fun t => (.int (gk [p2, p1, p0] 2 t))) := FB3_5.other W279 ne186
          have F286 : Fa Z h278 b132 .int (cn [p3, p2, p1, p0] 3).toNatClampNeg (fun t => (.int (gk [p2, p1, p0] 3 t))) := FB3_6.other W279 ne187
          have sz287 : n0 ≤ h278.size := Nat.le_trans sz_B3 (Nat.le_of_eq W279.size.symm)
          have sy288 : h0.size ≤ h278.size := Nat.le_trans sz0_B3 (Nat.le_of_eq W279.size.symm)
          have K289 := K_B3.wr W279 (Or.inr gz189)
          show Wk _ p l e _ s m _ below meth c n0 _ h278 7 28 (mkF m 104 #[.val (.ref a), .val (.int (4 : Int32)), .val (.ref b2), .val (.ref b15), .val (.ref b176), .val (.int (3 : Int32))] [(.int (cn [p2, p1, p0] 3)), (.ref b132)])
          refine Wk.st (g' := (mkF m 106 #[.val (.ref a), .val (.int (4 : Int32)), .val (.ref b2), .val (.ref b15), .val (.ref b176), .val (.int (3 : Int32))] [(.int (3 : Int32)), (.int (cn [p2, p1, p0] 3)), (.ref b132)])) (fun X t q => XS.iload X.here C.hx rfl (hb C.hby d2_104) rfl q) ?_
          refine Wk.fStI C F286 rfl (cn_nn _ _ (Nat.le_of_ble_eq_true rfl)) (cn_lt (m := []) (p := p3) (l := [p2, p1, p0]) (Nat.le_of_ble_eq_true rfl) (by rw [hq] <;> rfl)) ge143 d2_106 ?_
          intro h290 W291 F292
          have F293 : Fa Z h290 a .int 4 (up (up (up (up (fun _ => (.int (0 : Int32))) 0 (.int p0)) 1 (.int p1)) 2 (.int p2)) 3 (.int p3)) := F281.other W291 ne137
          have F294 : FaA Z h290 b15 .int "[I" 4 (up (up (up (up (fun _ => .null) 0 (.ref b30)) 1 (.ref b59)) 2 (.ref b93)) 3 (.ref b132)) := F282.other W291 ne139
          have F295 : Fa Z h290 b30 .int (cn [p3, p2, p1, p0] 0).toNatClampNeg (fun t => (.int (gk [p2, p1, p0] 0 t))) := F283.other W291 ne140
          have F296 : Fa Z h290 b59 .int (cn [p3, p2, p1, p0] 1).toNatClampNeg (fun t => (.int (gk [p2, p1, p0] 1 t))) := F284.other W291 ne141
          have F297 : Fa Z h290 b93 .int (cn [p3, p2, p1, p0] 2).toNatClampNeg (fun t => (.int (gk [p2, p1, p0] 2 t))) := F285.other W291 ne142
          have F298 : Fa Z h290 b176 .int 4 (up (fun j => (.int (cn [p2, p1, p0] j))) 3 (.int ((cn [p2, p1, p0] 3) + (1 : Int32)))) := F280.other W291 (Ne.symm ne187)
          have sz299 : n0 ≤ h290.size := Nat.le_trans sz287 (Nat.le_of_eq W291.size.symm)
          have sy300 : h0.size ≤ h290.size := Nat.le_trans sy288 (Nat.le_of_eq W291.size.symm)
          have K301 := K289.wr W291 (Or.inr gz144)
          show Wk _ p l e _ s m _ below meth c n0 _ h290 7 28 (mkF m 107 #[.val (.ref a), .val (.int (4 : Int32)), .val (.ref b2), .val (.ref b15), .val (.ref b176), .val (.int (3 : Int32))] [])
          refine Wk.st (g' := (mkF m 110 #[.val (.ref a), .val (.int (4 : Int32)), .val (.ref b2), .val (.ref b15), .val (.ref b176), .val (.int (4 : Int32))] [])) (fun X t q => XS.iinc X.here C.hx rfl (hb C.hby d2_107) rfl (l' := #[.val (.ref a), .val (.int (4 : Int32)), .val (.ref b2), .val (.ref b15), .val (.ref b176), .val (.int (4 : Int32))]) rfl q) ?_
          refine Wk.st (g' := (mkF m 73 #[.val (.ref a), .val (.int (4 : Int32)), .val (.ref b2), .val (.ref b15), .val (.ref b176), .val (.int (4 : Int32))] [])) (fun X t q => XS.goto X.here C.hx rfl (pc0 := 110) (pc' := 73) rfl (hb C.hby d2_110) (by decide) (by decide) q) ?_
          exact JB4 h290 sz299 sy300 K301 F293 F294 (F298.congr (fun j hj => up_cn (by rw [hq] <;> rfl) j)) (F295.congr (fun t ht => no_gk (by rw [hq] <;> decide))) (F296.congr (fun t ht => no_gk (by rw [hq] <;> decide))) (F297.congr (fun t ht => no_gk (by rw [hq] <;> decide))) (F292.congr (fun t ht => up_gk (by rw [hq] <;> rfl) rfl t))
    have JB2 : ∀ (hB2 : Heap), n0 ≤ hB2.size → h0.size ≤ hB2.size → Keep h0 hB2 [] → Fa Z hB2 a .int 4 (up (up (up (up (fun _ => (.int (0 : Int32))) 0 (.int p0)) 1 (.int p1)) 2 (.int p2)) 3 (.int p3)) → FaA Z hB2 b15 .int "[I" 4 (up (up (up (up (fun _ => .null) 0 (.ref b30)) 1 (.ref b59)) 2 (.ref b93)) 3 (.ref b132)) → Fa Z hB2 b176 .int 4 (fun j => (.int (cn [p1, p0] j))) → Fa Z hB2 b30 .int (cn [p3, p2, p1, p0] 0).toNatClampNeg (fun t => (.int (gk [p1, p0] 0 t))) → Fa Z hB2 b59 .int (cn [p3, p2, p1, p0] 1).toNatClampNeg (fun t => (.int (gk [p1, p0] 1 t))) → Fa Z hB2 b93 .int (cn [p3, p2, p1, p0] 2).toNatClampNeg (fun t => (.int (gk [p1, p0] 2 t))) → Fa Z hB2 b132 .int (cn [p3, p2, p1, p0] 3).toNatClampNeg (fun t => (.int (gk [p1, p0] 3 t))) → Wk false p l e ({ frames := 0, cells := 8, slots := 32, locals := 0 } : Room) s m #[(.ref a)] below meth c n0 (fun v h => ∃ ch c0 c1 c2 c3 : Addr, v = some (.ref ch) ∧ Keep h0 h [] ∧ h0.size ≤ ch ∧ h0.size ≤ c0 ∧ h0.size ≤ c1 ∧ h0.size ≤ c2 ∧ h0.size ≤ c3 ∧ FaA Z h ch .int "[I" 4 (up (up (up (up (fun _ => .null) 0 (.ref c0)) 1 (.ref c1)) 2 (.ref c2)) 3 (.ref c3)) ∧ Fa Z h c0 .int (cn [p3, p2, p1, p0] 0).toNatClampNeg (fun t => (.int (gk [p3, p2, p1, p0] 0 t))) ∧ Fa Z h c1 .int (cn [p3, p2, p1, p0] 1).toNatClampNeg (fun t => (.int (gk [p3, p2, p1, p0] 1 t))) ∧ Fa Z h c2 .int (cn [p3, p2, p1, p0] 2).toNatClampNeg (fun t => (.int (gk [p3, p2, p1, p0] 2 t))) ∧ Fa Z h c3 .int (cn [p3, p2, p1, p0] 3).toNatClampNeg (fun t => (.int (gk [p3, p2, p1, p0] 3 t)))) hB2 7 28 (mkF m 73 #[.val (.ref a), .val (.int (4 : Int32)), .val (.ref b2), .val (.ref b15), .val (.ref b176), .val (.int (2 : Int32))] []) := by
      intro hB2 sz_B2 sz0_B2 K_B2 FB2_0 FB2_1 FB2_2 FB2_3 FB2_4 FB2_5 FB2_6
      refine Wk.st (g' := (mkF m 75 #[.val (.ref a), .val (.int (4 : Int32)), .val (.ref b2), .val (.ref b15), .val (.ref b176), .val (.int (2 : Int32))] [(.int (2 : Int32))])) (fun X t q => XS.iload X.here C.hx rfl (hb C.hby d2_73) rfl q) ?_
      refine Wk.st (g' := (mkF m 76 #[.val (.ref a), .val (.int (4 : Int32)), .val (.ref b2), .val (.ref b15), .val (.ref b176), .val (.int (2 : Int32))] [(.int (4 : Int32)), (.int (2 : Int32))])) (fun X t q => XS.iloadN X.here C.hx rfl (hb C.hby d2_75) rfl q) ?_
      refine Wk.st (g' := (mkF m 79 #[.val (.ref a), .val (.int (4 : Int32)), .val (.ref b2), .val (.ref b15), .val (.ref b176), .val (.int (2 : Int32))] [])) (fun X t q => XS.icmpNo X.here C.hx rfl (hb C.hby d2_76) rfl (XT.ii_ge_f (by decide)) q) ?_
      refine Wk.st (g' := (mkF m 80 #[.val (.ref a), .val (.int (4 : Int32)), .val (.ref b2), .val (.ref b15), .val (.ref b176), .val (.int (2 : Int32))] [(.ref a)])) (fun X t q => XS.aloadN X.here C.hx rfl (hb C.hby d2_79) rfl rfl q) ?_
      refine Wk.st (g' := (mkF m 82 #[.val (.ref a), .val (.int (4 : Int32)), .val (.ref b2), .val (.ref b15), .val (.ref b176), .val (.int (2 : Int32))] [(.int (2 : Int32)), (.ref a)])) (fun X t q => XS.iload X.here C.hx rfl (hb C.hby d2_80) rfl q) ?_
      refine Wk.fLdI C FB2_0 (i := 2) (by decide) (by decide) (by decide) (v := (.int p2)) (by simp [up]) d2_82 ?_
      show Wk _ p l e _ s m _ below meth c n0 _ hB2 7 28 (mkF m 83 #[.val (.ref a), .val (.int (4 : Int32)), .val (.ref b2), .val (.ref b15), .val (.ref b176), .val (.int (2 : Int32))] [(.int p2)])
      by_cases hb302 : p2 < (0 : Int32)
      · skip
        refine Wk.st (g' := (mkF m 107 #[.val (.ref a), .val (.int (4 : Int32)), .val (.ref b2), .val (.ref b15), .val (.ref b176), .val (.int (2 : Int32))] [])) (fun X t q => XS.ifYes X.here C.hx rfl (pc0 := 83) (pc' := 107) rfl (hb C.hby d2_83) rfl (XT.i0_lt_t hb302) (by decide) (by decide) q) ?_
        refine Wk.st (g' := (mkF m 110 #[.val (.ref a), .val (.int (4 : Int32)), .val (.ref b2), .val (.ref b15), .val (.ref b176), .val (.int (3 : Int32))] [])) (fun X t q => XS.iinc X.here C.hx rfl (hb C.hby d2_107) rfl (l' := #[.val (.ref a), .val (.int (4 : Int32)), .val (.ref b2), .val (.ref b15), .val (.ref b176), .val (.int (3 : Int32))]) rfl q) ?_
        refine Wk.st (g' := (mkF m 73 #[.val (.ref a), .val (.int (4 : Int32)), .val (.ref b2), .val (.ref b15), .val (.ref b176), .val (.int (3 : Int32))] [])) (fun X t q => XS.goto X.here C.hx rfl (pc0 := 110) (pc' := 73) rfl (hb C.hby d2_110) (by decide) (by decide) q) ?_
        exact JB3 hB2 sz_B2 sz0_B2 K_B2 FB2_0 FB2_1 (FB2_2.congr (fun j hj => no_cn (neg_ne hb302 j))) (FB2_3.congr (fun t ht => no_gk (neg_ne hb302 0))) (FB2_4.congr (fun t ht => no_gk (neg_ne hb302 1))) (FB2_5.congr (fun t ht => no_gk (neg_ne hb302 2))) (FB2_6.congr (fun t ht => no_gk (neg_ne hb302 3)))
      · skip
        refine Wk.st (g' := (mkF m 86 #[.val (.ref a), .val (.int (4 : Int32)), .val (.ref b2), .val (.ref b15), .val (.ref b176), .val (.int (2 : Int32))] [])) (fun X t q => XS.ifNo X.here C.hx rfl (hb C.hby d2_83) rfl (XT.i0_lt_f hb302) q) ?_
        refine Wk.st (g' := (mkF m 87 #[.val (.ref a), .val (.int (4 : Int32)), .val (.ref b2), .val (.ref b15), .val (.ref b176), .val (.int (2 : Int32))] [(.ref b15)])) (fun X t q => XS.aloadN X.here C.hx rfl (hb C.hby d2_86) rfl rfl q) ?_
        refine Wk.st (g' := (mkF m 88 #[.val (.ref a), .val (.int (4 : Int32)), .val (.ref b2), .val (.ref b15), .val (.ref b176), .val (.int (2 : Int32))] [(.ref a), (.ref b15)])) (fun X t q => XS.aloadN X.here C.hx rfl (hb C.hby d2_87) rfl rfl q) ?_
        refine Wk.st (g' := (mkF m 90 #[.val (.ref a), .val (.int (4 : Int32)), .val (.ref b2), .val (.ref b15), .val (.ref b176), .val (.int (2 : Int32))] [(.int (2 : Int32)), (.ref a), (.ref b15)])) (fun X t q => XS.iload X.here C.hx rfl (hb C.hby d2_88) rfl q) ?_
        refine Wk.fLdI C FB2_0 (i := 2) (by decide) (by decide) (by decide) (v := (.int p2)) (by simp [up]) d2_90 ?_
        show Wk _ p l e _ s m _ below meth c n0 _ hB2 7 28 (mkF m 91 #[.val (.ref a), .val (.int (4 : Int32)), .val (.ref b2), .val (.ref b15), .val (.ref b176), .val (.int (2 : Int32))] [(.int p2), (.ref b15)])
        rcases four hb302 r2 with hq | hq | hq | hq
        · skip
          refine Wk.fLdA C FB2_1 (by rw [hq] <;> decide) hb302 (by decide) (v := (.ref b30)) (by simp [up]) d2_91 ?_
          show Wk _ p l e _ s m _ below meth c n0 _ hB2 7 28 (mkF m 92 #[.val (.ref a), .val (.int (4 : Int32)), .val (.ref b2), .val (.ref b15), .val (.ref b176), .val (.int (2 : Int32))] [(.ref b30)])
          refine Wk.st (g' := (mkF m 94 #[.val (.ref a), .val (.int (4 : Int32)), .val (.ref b2), .val (.ref b15), .val (.ref b176), .val (.int (2 : Int32))] [(.ref b176), (.ref b30)])) (fun X t q => XS.aload X.here C.hx rfl (hb C.hby d2_92) rfl rfl q) ?_
          refine Wk.st (g' := (mkF m 95 #[.val (.ref a), .val (.int (4 : Int32)), .val (.ref b2), .val (.ref b15), .val (.ref b176), .val (.int (2 : Int32))] [(.ref a), (.ref b176), (.ref b30)])) (fun X t q => XS.aloadN X.here C.hx rfl (hb C.hby d2_94) rfl rfl q) ?_
          refine Wk.st (g' := (mkF m 97 #[.val (.ref a), .val (.int (4 : Int32)), .val (.ref b2), .val (.ref b15), .val (.ref b176), .val (.int (2 : Int32))] [(.int (2 : Int32)), (.ref a), (.ref b176), (.ref b30)])) (fun X t q => XS.iload X.here C.hx rfl (hb C.hby d2_95) rfl q) ?_
          refine Wk.fLdI C FB2_0 (i := 2) (by decide) (by decide) (by decide) (v := (.int p2)) (by simp [up]) d2_97 ?_
          show Wk _ p l e _ s m _ below meth c n0 _ hB2 7 28 (mkF m 98 #[.val (.ref a), .val (.int (4 : Int32)), .val (.ref b2), .val (.ref b15), .val (.ref b176), .val (.int (2 : Int32))] [(.int p2), (.ref b176), (.ref b30)])
          refine Wk.st (g' := (mkF m 99 #[.val (.ref a), .val (.int (4 : Int32)), .val (.ref b2), .val (.ref b15), .val (.ref b176), .val (.int (2 : Int32))] [(.int p2), (.ref b176), (.int p2), (.ref b176), (.ref b30)])) (fun X t q => XT.dup2 X.here C.hx rfl (hb C.hby d2_98) rfl rfl rfl q) ?_
          refine Wk.fLdI C FB2_2 (by rw [hq] <;> decide) hb302 (by decide) (v := (.int (cn [p1, p0] 0))) rfl d2_99 ?_
          show Wk _ p l e _ s m _ below meth c n0 _ hB2 7 28 (mkF m 100 #[.val (.ref a), .val (.int (4 : Int32)), .val (.ref b2), .val (.ref b15), .val (.ref b176), .val (.int (2 : Int32))] [(.int (cn [p1, p0] 0)), (.int p2), (.ref b176), (.ref b30)])
          refine Wk.st (g' := (mkF m 101 #[.val (.ref a), .val (.int (4 : Int32)), .val (.ref b2), .val (.ref b15), .val (.ref b176), .val (.int (2 : Int32))] [(.int (cn [p1, p0] 0)), (.int p2), (.ref b176), (.int (cn [p1, p0] 0)), (.ref b30)])) (fun X t q => dupX2 X.here C.hx rfl (hb C.hby d2_100) rfl rfl rfl rfl q) ?_
          refine Wk.st (g' := (mkF m 102 #[.val (.ref a), .val (.int (4 : Int32)), .val (.ref b2), .val (.ref b15), .val (.ref b176), .val (.int (2 : Int32))] [(.int (1 : Int32)), (.int (cn [p1, p0] 0)), (.int p2), (.ref b176), (.int (cn [p1, p0] 0)), (.ref b30)])) (fun X t q => XS.iconst X.here C.hx rfl (hb C.hby d2_101) q) ?_
          refine Wk.st (g' := (mkF m 103 #[.val (.ref a), .val (.int (4 : Int32)), .val (.ref b2), .val (.ref b15), .val (.ref b176), .val (.int (2 : Int32))] [(.int ((cn [p1, p0] 0) + (1 : Int32))), (.int p2), (.ref b176), (.int (cn [p1, p0] 0)), (.ref b30)])) (fun X t q => XS.iadd X.here C.hx rfl (hb C.hby d2_102) rfl q) ?_
          refine Wk.fStI C FB2_2 (by rw [hq] <;> decide) hb302 (by decide) ge188 d2_103 ?_
          intro h303 W304 F305
          have F306 : Fa Z h303 a .int 4 (up (up (up (up (fun _ => (.int (0 : Int32))) 0 (.int p0)) 1 (.int p1)) 2 (.int p2)) 3 (.int p3)) := FB2_0.other W304 ne181
          have F307 : FaA Z h303 b15 .int "[I" 4 (up (up (up (up (fun _ => .null) 0 (.ref b30)) 1 (.ref b59)) 2 (.ref b93)) 3 (.ref b132)) := FB2_1.other W304 ne183
          have F308 : Fa Z h303 b30 .int (cn [p3, p2, p1, p0] 0).toNatClampNeg (fun t => (.int (gk [p1, p0] 0 t))) := FB2_3.other W304 ne184
          have F309 : Fa Z h303 b59 .int (cn [p3, p2, p1, p0] 1).toNatClampNeg (fun t => (.int (gk [p1, p0] 1 t))) := FB2_4.other W304 ne185
          have F310 : Fa Z h303 b93 .int (cn [p3, p2, p1, p0] 2).toNatClampNeg (fun t => (.int (gk [p1, p0] 2 t))) := FB2_5.other W304 ne186
          have F311 : Fa Z h303 b132 .int (cn [p3, p2, p1, p0] 3).toNatClampNeg (fun t => (.int (gk [p1, p0] 3 t))) := FB2_6.other W304 ne187
          have sz312 : n0 ≤ h303.size := Nat.le_trans sz_B2 (Nat.le_of_eq W304.size.symm)
          have sy313 : h0.size ≤ h303.size := Nat.le_trans sz0_B2 (Nat.le_of_eq W304.size.symm)
          have K314 := K_B2.wr W304 (Or.inr gz189)
          show Wk _ p l e _ s m _ below meth c n0 _ h303 7 28 (mkF m 104 #[.val (.ref a), .val (.int (4 : Int32)), .val (.ref b2), .val (.ref b15), .val (.ref b176), .val (.int (2 : Int32))] [(.int (cn [p1, p0] 0)), (.ref b30)])
          refine Wk.st (g' := (mkF m 106 #[.val (.ref a), .val (.int (4 : Int32)), .val (.ref b2), .val (.ref b15), .val (.ref b176), .val (.int (2 : Int32))] [(.int (2 : Int32)), (.int (cn [p1, p0] 0)), (.ref b30)])) (fun X t q => XS.iload X.here C.hx rfl (hb C.hby d2_104) rfl q) ?_
          refine Wk.fStI C F308 rfl (cn_nn _ _ (Nat.le_of_ble_eq_true rfl)) (cn_lt (m := [p3]) (p := p2) (l := [p1, p0]) (Nat.le_of_ble_eq_true rfl) (by rw [hq] <;> rfl)) ge38 d2_106 ?_
          intro h315 W316 F317
          have F318 : Fa Z h315 a .int 4 (up (up (up (up (fun _ => (.int (0 : Int32))) 0 (.int p0)) 1 (.int p1)) 2 (.int p2)) 3 (.int p3)) := F306.other W316 ne35
          have F319 : FaA Z h315 b15 .int "[I" 4 (up (up (up (up (fun _ => .null) 0 (.ref b30)) 1 (.ref b59)) 2 (.ref b93)) 3 (.ref b132)) := F307.other W316 ne37
          have F320 : Fa Z h315 b59 .int (cn [p3, p2, p1, p0] 1).toNatClampNeg (fun t => (.int (gk [p1, p0] 1 t))) := F309.other W316 (Ne.symm ne67)
          have F321 : Fa Z h315 b93 .int (cn [p3, p2, p1, p0] 2).toNatClampNeg (fun t => (.int (gk [p1, p0] 2 t))) := F310.other W316 (Ne.symm ne101)
          have F322 : Fa Z h315 b132 .int (cn [p3, p2, p1, p0] 3).toNatClampNeg (fun t => (.int (gk [p1, p0] 3 t))) := F311.other W316 (Ne.symm ne140)
          have F323 : Fa Z h315 b176 .int 4 (up (fun j => (.int (cn [p1, p0] j))) 0 (.int ((cn [p1, p0] 0) + (1 : Int32)))) := F305.other W316 (Ne.symm ne184)
          have sz324 : n0 ≤ h315.size := Nat.le_trans sz312 (Nat.le_of_eq W316.size.symm)
          have sy325 : h0.size ≤ h315.size := Nat.le_trans sy313 (Nat.le_of_eq W316.size.symm)
          have K326 := K314.wr W316 (Or.inr gz39)
          show Wk _ p l e _ s m _ below meth c n0 _ h315 7 28 (mkF m 107 #[.val (.ref a), .val (.int (4 : Int32)), .val (.ref b2), .val (.ref b15), .val (.ref b176), .val (.int (2 : Int32))] [])
          refine Wk.st (g' := (mkF m 110 #[.val (.ref a), .val (.int (4 : Int32)), .val (.ref b2), .val (.ref b15), .val (.ref b176), .val (.int (3 : Int32))] [])) (fun X t q => XS.iinc X.here C.hx rfl (hb C.hby d2_107) rfl (l' := #[.val (.ref a), .val (.int (4 : Int32)), .val (.ref b2), .val (.ref b15), .val (.ref b176), .val (.int (3 : Int32))]) rfl q) ?_
          refine Wk.st (g' := (mkF m 73 #[.val (.ref a), .val (.int (4 : Int32)), .val (.ref b2), .val (.ref b15), .val (.ref b176), .val (.int (3 : Int32))] [])) (fun X t q => XS.goto X.here C.hx rfl (pc0 := 110) (pc' := 73) rfl (hb C.hby d2_110) (by decide) (by decide) q) ?_
          exact JB3 h315 sz324 sy325 K326 F318 F319 (F323.congr (fun j hj => up_cn (by rw [hq] <;> rfl) j)) (F317.congr (fun t ht => up_gk (by rw [hq] <;> rfl) rfl t)) (F320.congr (fun t ht => no_gk (by rw [hq] <;> decide))) (F321.congr (fun t ht => no_gk (by rw [hq] <;> decide))) (F322.congr (fun t ht => no_gk (by rw [hq] <;> decide)))
        · skip
          refine Wk.fLdA C FB2_1 (by rw [hq] <;> decide) hb302 (by decide) (v := (.ref b59)) (by simp [up]) d2_91 ?_
          show Wk _ p l e _ s m _ below meth c n0 _ hB2 7 28 (mkF m 92 #[.val (.ref a), .val (.int (4 : Int32)), .val (.ref b2), .val (.ref b15), .val (.ref b176), .val (.int (2 : Int32))] [(.ref b59)])
          refine Wk.st (g' := (mkF m 94 #[.val (.ref a), .val (.int (4 : Int32)), .val (.ref b2), .val (.ref b15), .val (.ref b176), .val (.int (2 : Int32))] [(.ref b176), (.ref b59)])) (fun X t q => XS.aload X.here C.hx rfl (hb C.hby d2_92) rfl rfl q) ?_
          refine Wk.st (g' := (mkF m 95 #[.val (.ref a), .val (.int (4 : Int32)), .val (.ref b2), .val (.ref b15), .val (.ref b176), .val (.int (2 : Int32))] [(.ref a), (.ref b176), (.ref b59)])) (fun X t q => XS.aloadN X.here C.hx rfl (hb C.hby d2_94) rfl rfl q) ?_
          refine Wk.st (g' := (mkF m 97 #[.val (.ref a), .val (.int (4 : Int32)), .val (.ref b2), .val (.ref b15), .val (.ref b176), .val (.int (2 : Int32))] [(.int (2 : Int32)), (.ref a), (.ref b176), (.ref b59)])) (fun X t q => XS.iload X.here C.hx rfl (hb C.hby d2_95) rfl q) ?_
          refine Wk.fLdI C FB2_0 (i := 2) (by decide) (by decide) (by decide) (v := (.int p2)) (by simp [up]) d2_97 ?_
          show Wk _ p l e _ s m _ below meth c n0 _ hB2 7 28 (mkF m 98 #[.val (.ref a), .val (.int (4 : Int32)), .val (.ref b2), .val (.ref b15), .val (.ref b176), .val (.int (2 : Int32))] [(.int p2), (.ref b176), (.ref b59)])
          refine Wk.st (g' := (mkF m 99 #[.val (.ref a), .val (.int (4 : Int32)), .val (.ref b2), .val (.ref b15), .val (.ref b176), .val (.int (2 : Int32))] [(.int p2), (.ref b176), (.int p2), (.ref b176), (.ref b59)])) (fun X t q => XT.dup2 X.here C.hx rfl (hb C.hby d2_98) rfl rfl rfl q) ?_
          refine Wk.fLdI C FB2_2 (by rw [hq] <;> decide) hb302 (by decide) (v := (.int (cn [p1, p0] 1))) rfl d2_99 ?_
          show Wk _ p l e _ s m _ below meth c n0 _ hB2 7 28 (mkF m 100 #[.val (.ref a), .val (.int (4 : Int32)), .val (.ref b2), .val (.ref b15), .val (.ref b176), .val (.int (2 : Int32))] [(.int (cn [p1, p0] 1)), (.int p2), (.ref b176), (.ref b59)])
          refine Wk.st (g' := (mkF m 101 #[.val (.ref a), .val (.int (4 : Int32)), .val (.ref b2), .val (.ref b15), .val (.ref b176), .val (.int (2 : Int32))] [(.int (cn [p1, p0] 1)), (.int p2), (.ref b176), (.int (cn [p1, p0] 1)), (.ref b59)])) (fun X t q => dupX2 X.here C.hx rfl (hb C.hby d2_100) rfl rfl rfl rfl q) ?_
          refine Wk.st (g' := (mkF m 102 #[.val (.ref a), .val (.int (4 : Int32)), .val (.ref b2), .val (.ref b15), .val (.ref b176), .val (.int (2 : Int32))] [(.int (1 : Int32)), (.int (cn [p1, p0] 1)), (.int p2), (.ref b176), (.int (cn [p1, p0] 1)), (.ref b59)])) (fun X t q => XS.iconst X.here C.hx rfl (hb C.hby d2_101) q) ?_
          refine Wk.st (g' := (mkF m 103 #[.val (.ref a), .val (.int (4 : Int32)), .val (.ref b2), .val (.ref b15), .val (.ref b176), .val (.int (2 : Int32))] [(.int ((cn [p1, p0] 1) + (1 : Int32))), (.int p2), (.ref b176), (.int (cn [p1, p0] 1)), (.ref b59)])) (fun X t q => XS.iadd X.here C.hx rfl (hb C.hby d2_102) rfl q) ?_
          refine Wk.fStI C FB2_2 (by rw [hq] <;> decide) hb302 (by decide) ge188 d2_103 ?_
          intro h327 W328 F329
          have F330 : Fa Z h327 a .int 4 (up (up (up (up (fun _ => (.int (0 : Int32))) 0 (.int p0)) 1 (.int p1)) 2 (.int p2)) 3 (.int p3)) := FB2_0.other W328 ne181
          have F331 : FaA Z h327 b15 .int "[I" 4 (up (up (up (up (fun _ => .null) 0 (.ref b30)) 1 (.ref b59)) 2 (.ref b93)) 3 (.ref b132)) := FB2_1.other W328 ne183
          have F332 : Fa Z h327 b30 .int (cn [p3, p2, p1, p0] 0).toNatClampNeg (fun t => (.int (gk [p1, p0] 0 t))) := FB2_3.other W328 ne184
          have F333 : Fa Z h327 b59 .int (cn [p3, p2, p1, p0] 1).toNatClampNeg (fun t => (.int (gk [p1, p0] 1 t))) := FB2_4.other W328 ne185
          have F334 : Fa Z h327 b93 .int (cn [p3, p2, p1, p0] 2).toNatClampNeg (fun t => (.int (gk [p1, p0] 2 t))) := FB2_5.other W328 ne186
          have F335 : Fa Z h327 b132 .int (cn [p3, p2, p1, p0] 3).toNatClampNeg (fun t => (.int (gk [p1, p0] 3 t))) := FB2_6.other W328 ne187
          have sz336 : n0 ≤ h327.size := Nat.le_trans sz_B2 (Nat.le_of_eq W328.size.symm)
          have sy337 : h0.size ≤ h327.size := Nat.le_trans sz0_B2 (Nat.le_of_eq W328.size.symm)
          have K338 := K_B2.wr W328 (Or.inr gz189)
          show Wk _ p l e _ s m _ below meth c n0 _ h327 7 28 (mkF m 104 #[.val (.ref a), .val (.int (4 : Int32)), .val (.ref b2), .val (.ref b15), .val (.ref b176), .val (.int (2 : Int32))] [(.int (cn [p1, p0] 1)), (.ref b59)])
          refine Wk.st (g' := (mkF m 106 #[.val (.ref a), .val (.int (4 : Int32)), .val (.ref b2), .val (.ref b15), .val (.ref b176), .val (.int (2 : Int32))] [(.int (2 : Int32)), (.int (cn [p1, p0] 1)), (.ref b59)])) (fun X t q => XS.iload X.here C.hx rfl (hb C.hby d2_104) rfl q) ?_
          refine Wk.fStI C F333 rfl (cn_nn _ _ (Nat.le_of_ble_eq_true rfl)) (cn_lt (m := [p3]) (p := p2) (l := [p1, p0]) (Nat.le_of_ble_eq_true rfl) (by rw [hq] <;> rfl)) ge68 d2_106 ?_
          intro h339 W340 F341
          have F342 : Fa Z h339 a .int 4 (up (up (up (up (fun _ => (.int (0 : Int32))) 0 (.int p0)) 1 (.int p1)) 2 (.int p2)) 3 (.int p3)) := F330.other W340 ne64
          have F343 : FaA Z h339 b15 .int "[I" 4 (up (up (up (up (fun _ => .null) 0 (.ref b30)) 1 (.ref b59)) 2 (.ref b93)) 3 (.ref b132)) := F331.other W340 ne66
          have F344 : Fa Z h339 b30 .int (cn [p3, p2, p1, p0] 0).toNatClampNeg (fun t => (.int (gk [p1, p0] 0 t))) := F332.other W340 ne67
          have F345 : Fa Z h339 b93 .int (cn [p3, p2, p1, p0] 2).toNatClampNeg (fun t => (.int (gk [p1, p0] 2 t))) := F334.other W340 (Ne.symm ne102)
          have F346 : Fa Z h339 b132 .int (cn [p3, p2, p1, p0] 3).toNatClampNeg (fun t => (.int (gk [p1, p0] 3 t))) := F335.other W340 (Ne.symm ne141)
          have F347 : Fa Z h339 b176 .int 4 (up (fun j => (.int (cn [p1, p0] j))) 1 (.int ((cn [p1, p0] 1) + (1 : Int32)))) := F329.other W340 (Ne.symm ne185)
          have sz348 : n0 ≤ h339.size := Nat.le_trans sz336 (Nat.le_of_eq W340.size.symm)
          have sy349 : h0.size ≤ h339.size := Nat.le_trans sy337 (Nat.le_of_eq W340.size.symm)
          have K350 := K338.wr W340 (Or.inr gz69)
          show Wk _ p l e _ s m _ below meth c n0 _ h339 7 28 (mkF m 107 #[.val (.ref a), .val (.int (4 : Int32)), .val (.ref b2), .val (.ref b15), .val (.ref b176), .val (.int (2 : Int32))] [])
          refine Wk.st (g' := (mkF m 110 #[.val (.ref a), .val (.int (4 : Int32)), .val (.ref b2), .val (.ref b15), .val (.ref b176), .val (.int (3 : Int32))] [])) (fun X t q => XS.iinc X.here C.hx rfl (hb C.hby d2_107) rfl (l' := #[.val (.ref a), .val (.int (4 : Int32)), .val (.ref b2), .val (.ref b15), .val (.ref b176), .val (.int (3 : Int32))]) rfl q) ?_
          refine Wk.st (g' := (mkF m 73 #[.val (.ref a), .val (.int (4 : Int32)), .val (.ref b2), .val (.ref b15), .val (.ref b176), .val (.int (3 : Int32))] [])) (fun X t q => XS.goto X.here C.hx rfl (pc0 := 110) (pc' := 73) rfl (hb C.hby d2_110) (by decide) (by decide) q) ?_
          exact JB3 h339 sz348 sy349 K350 F342 F343 (F347.congr (fun j hj => up_cn (by rw [hq] <;> rfl) j)) (F344.congr (fun t ht => no_gk (by rw [hq] <;> decide))) (F341.congr (fun t ht => up_gk (by rw [hq] <;> rfl) rfl t)) (F345.congr (fun t ht => no_gk (by rw [hq] <;> decide))) (F346.congr (fun t ht => no_gk (by rw [hq] <;> decide)))
        · skip
          refine Wk.fLdA C FB2_1 (by rw [hq] <;> decide) hb302 (by decide) (v := (.ref b93)) (by simp [up]) d2_91 ?_
          show Wk _ p l e _ s m _ below meth c n0 _ hB2 7 28 (mkF m 92 #[.val (.ref a), .val (.int (4 : Int32)), .val (.ref b2), .val (.ref b15), .val (.ref b176), .val (.int (2 : Int32))] [(.ref b93)])
          refine Wk.st (g' := (mkF m 94 #[.val (.ref a), .val (.int (4 : Int32)), .val (.ref b2), .val (.ref b15), .val (.ref b176), .val (.int (2 : Int32))] [(.ref b176), (.ref b93)])) (fun X t q => XS.aload X.here C.hx rfl (hb C.hby d2_92) rfl rfl q) ?_
          refine Wk.st (g' := (mkF m 95 #[.val (.ref a), .val (.int (4 : Int32)), .val (.ref b2), .val (.ref b15), .val (.ref b176), .val (.int (2 : Int32))] [(.ref a), (.ref b176), (.ref b93)])) (fun X t q => XS.aloadN X.here C.hx rfl (hb C.hby d2_94) rfl rfl q) ?_
          refine Wk.st (g' := (mkF m 97 #[.val (.ref a), .val (.int (4 : Int32)), .val (.ref b2), .val (.ref b15), .val (.ref b176), .val (.int (2 : Int32))] [(.int (2 : Int32)), (.ref a), (.ref b176), (.ref b93)])) (fun X t q => XS.iload X.here C.hx rfl (hb C.hby d2_95) rfl q) ?_
          refine Wk.fLdI C FB2_0 (i := 2) (by decide) (by decide) (by decide) (v := (.int p2)) (by simp [up]) d2_97 ?_
          show Wk _ p l e _ s m _ below meth c n0 _ hB2 7 28 (mkF m 98 #[.val (.ref a), .val (.int (4 : Int32)), .val (.ref b2), .val (.ref b15), .val (.ref b176), .val (.int (2 : Int32))] [(.int p2), (.ref b176), (.ref b93)])
          refine Wk.st (g' := (mkF m 99 #[.val (.ref a), .val (.int (4 : Int32)), .val (.ref b2), .val (.ref b15), .val (.ref b176), .val (.int (2 : Int32))] [(.int p2), (.ref b176), (.int p2), (.ref b176), (.ref b93)])) (fun X t q => XT.dup2 X.here C.hx rfl (hb C.hby d2_98) rfl rfl rfl q) ?_
          refine Wk.fLdI C FB2_2 (by rw [hq] <;> decide) hb302 (by decide) (v := (.int (cn [p1, p0] 2))) rfl d2_99 ?_
          show Wk _ p l e _ s m _ below meth c n0 _ hB2 7 28 (mkF m 100 #[.val (.ref a), .val (.int (4 : Int32)), .val (.ref b2), .val (.ref b15), .val (.ref b176), .val (.int (2 : Int32))] [(.int (cn [p1, p0] 2)), (.int p2), (.ref b176), (.ref b93)])
          refine Wk.st (g' := (mkF m 101 #[.val (.ref a), .val (.int (4 : Int32)), .val (.ref b2), .val (.ref b15), .val (.ref b176), .val (.int (2 : Int32))] [(.int (cn [p1, p0] 2)), (.int p2), (.ref b176), (.int (cn [p1, p0] 2)), (.ref b93)])) (fun X t q => dupX2 X.here C.hx rfl (hb C.hby d2_100) rfl rfl rfl rfl q) ?_
          refine Wk.st (g' := (mkF m 102 #[.val (.ref a), .val (.int (4 : Int32)), .val (.ref b2), .val (.ref b15), .val (.ref b176), .val (.int (2 : Int32))] [(.int (1 : Int32)), (.int (cn [p1, p0] 2)), (.int p2), (.ref b176), (.int (cn [p1, p0] 2)), (.ref b93)])) (fun X t q => XS.iconst X.here C.hx rfl (hb C.hby d2_101) q) ?_
          refine Wk.st (g' := (mkF m 103 #[.val (.ref a), .val (.int (4 : Int32)), .val (.ref b2), .val (.ref b15), .val (.ref b176), .val (.int (2 : Int32))] [(.int ((cn [p1, p0] 2) + (1 : Int32))), (.int p2), (.ref b176), (.int (cn [p1, p0] 2)), (.ref b93)])) (fun X t q => XS.iadd X.here C.hx rfl (hb C.hby d2_102) rfl q) ?_
          refine Wk.fStI C FB2_2 (by rw [hq] <;> decide) hb302 (by decide) ge188 d2_103 ?_
          intro h351 W352 F353
          have F354 : Fa Z h351 a .int 4 (up (up (up (up (fun _ => (.int (0 : Int32))) 0 (.int p0)) 1 (.int p1)) 2 (.int p2)) 3 (.int p3)) := FB2_0.other W352 ne181
          have F355 : FaA Z h351 b15 .int "[I" 4 (up (up (up (up (fun _ => .null) 0 (.ref b30)) 1 (.ref b59)) 2 (.ref b93)) 3 (.ref b132)) := FB2_1.other W352 ne183
          have F356 : Fa Z h351 b30 .int (cn [p3, p2, p1, p0] 0).toNatClampNeg (fun t => (.int (gk [p1, p0] 0 t))) := FB2_3.other W352 ne184
          have F357 : Fa Z h351 b59 .int (cn [p3, p2, p1, p0] 1).toNatClampNeg (fun t => (.int (gk [p1, p0] 1 t))) := FB2_4.other W352 ne185
          have F358 : Fa Z h351 b93 .int (cn [p3, p2, p1, p0] 2).toNatClampNeg (fun t => (.int (gk [p1, p0] 2 t))) := FB2_5.other W352 ne186
          have F359 : Fa Z h351 b132 .int (cn [p3, p2, p1, p0] 3).toNatClampNeg (fun t => (.int (gk [p1, p0] 3 t))) := FB2_6.other W352 ne187
          have sz360 : n0 ≤ h351.size := Nat.le_trans sz_B2 (Nat.le_of_eq W352.size.symm)
          have sy361 : h0.size ≤ h351.size := Nat.le_trans sz0_B2 (Nat.le_of_eq W352.size.symm)
          have K362 := K_B2.wr W352 (Or.inr gz189)
          show Wk _ p l e _ s m _ below meth c n0 _ h351 7 28 (mkF m 104 #[.val (.ref a), .val (.int (4 : Int32)), .val (.ref b2), .val (.ref b15), .val (.ref b176), .val (.int (2 : Int32))] [(.int (cn [p1, p0] 2)), (.ref b93)])
          refine Wk.st (g' := (mkF m 106 #[.val (.ref a), .val (.int (4 : Int32)), .val (.ref b2), .val (.ref b15), .val (.ref b176), .val (.int (2 : Int32))] [(.int (2 : Int32)), (.int (cn [p1, p0] 2)), (.ref b93)])) (fun X t q => XS.iload X.here C.hx rfl (hb C.hby d2_104) rfl q) ?_
          refine Wk.fStI C F358 rfl (cn_nn _ _ (Nat.le_of_ble_eq_true rfl)) (cn_lt (m := [p3]) (p := p2) (l := [p1, p0]) (Nat.le_of_ble_eq_true rfl) (by rw [hq] <;> rfl)) ge103 d2_106 ?_
          intro h363 W364 F365
          have F366 : Fa Z h363 a .int 4 (up (up (up (up (fun _ => (.int (0 : Int32))) 0 (.int p0)) 1 (.int p1)) 2 (.int p2)) 3 (.int p3)) := F354.other W364 ne98
          have F367 : FaA Z h363 b15 .int "[I" 4 (up (up (up (up (fun _ => .null) 0 (.ref b30)) 1 (.ref b59)) 2 (.ref b93)) 3 (.ref b132)) := F355.other W364 ne100
          have F368 : Fa Z h363 b30 .int (cn [p3, p2, p1, p0] 0).toNatClampNeg (fun t => (.int (gk [p1, p0] 0 t))) := F356.other W364 ne101
          have F369 : Fa Z h363 b59 .int (cn [p3, p2, p1, p0] 1).toNatClampNeg (fun t => (.int (gk [p1, p0] 1 t))) := F357.other W364 ne102
          have F370 : Fa Z h363 b132 .int (cn [p3, p2, p1, p0] 3).toNatClampNeg (fun t => (.int (gk [p1, p0] 3 t))) := F359.other W364 (Ne.symm ne142)
          have F371 : Fa Z h363 b176 .int 4 (up (fun j => (.int (cn [p1, p0] j))) 2 (.int ((cn [p1, p0] 2) + (1 : Int32)))) := F353.other W364 (Ne.symm ne186)
          have sz372 : n0 ≤ h363.size := Nat.le_trans sz360 (Nat.le_of_eq W364.size.symm)
          have sy373 : h0.size ≤ h363.size := Nat.le_trans sy361 (Nat.le_of_eq W364.size.symm)
          have K374 := K362.wr W364 (Or.inr gz104)
          show Wk _ p l e _ s m _ below meth c n0 _ h363 7 28 (mkF m 107 #[.val (.ref a), .val (.int (4 : Int32)), .val (.ref b2), .val (.ref b15), .val (.ref b176), .val (.int (2 : Int32))] [])
          refine Wk.st (g' := (mkF m 110 #[.val (.ref a), .val (.int (4 : Int32)), .val (.ref b2), .val (.ref b15), .val (.ref b176), .val (.int (3 : Int32))] [])) (fun X t q => XS.iinc X.here C.hx rfl (hb C.hby d2_107) rfl (l' := #[.val (.ref a), .val (.int (4 : Int32)), .val (.ref b2), .val (.ref b15), .val (.ref b176), .val (.int (3 : Int32))]) rfl q) ?_
          refine Wk.st (g' := (mkF m 73 #[.val (.ref a), .val (.int (4 : Int32)), .val (.ref b2), .val (.ref b15), .val (.ref b176), .val (.int (3 : Int32))] [])) (fun X t q => XS.goto X.here C.hx rfl (pc0 := 110) (pc' := 73) rfl (hb C.hby d2_110) (by decide) (by decide) q) ?_
          exact JB3 h363 sz372 sy373 K374 F366 F367 (F371.congr (fun j hj => up_cn (by rw [hq] <;> rfl) j)) (F368.congr (fun t ht => no_gk (by rw [hq] <;> decide))) (F369.congr (fun t ht => no_gk (by rw [hq] <;> decide))) (F365.congr (fun t ht => up_gk (by rw [hq] <;> rfl) rfl t)) (F370.congr (fun t ht => no_gk (by rw [hq] <;> decide)))
        · skip
          refine Wk.fLdA C FB2_1 (by rw [hq] <;> decide) hb302 (by decide) (v := (.ref b132)) (by simp [up]) d2_91 ?_
          show Wk _ p l e _ s m _ below meth c n0 _ hB2 7 28 (mkF m 92 #[.val (.ref a), .val (.int (4 : Int32)), .val (.ref b2), .val (.ref b15), .val (.ref b176), .val (.int (2 : Int32))] [(.ref b132)])
          refine Wk.st (g' := (mkF m 94 #[.val (.ref a), .val (.int (4 : Int32)), .val (.ref b2), .val (.ref b15), .val (.ref b176), .val (.int (2 : Int32))] [(.ref b176), (.ref b132)])) (fun X t q => XS.aload X.here C.hx rfl (hb C.hby d2_92) rfl rfl q) ?_
          refine Wk.st (g' := (mkF m 95 #[.val (.ref a), .val (.int (4 : Int32)), .val (.ref b2), .val (.ref b15), .val (.ref b176), .val (.int (2 : Int32))] [(.ref a), (.ref b176), (.ref b132)])) (fun X t q => XS.aloadN X.here C.hx rfl (hb C.hby d2_94) rfl rfl q) ?_
          refine Wk.st (g' := (mkF m 97 #[.val (.ref a), .val (.int (4 : Int32)), .val (.ref b2), .val (.ref b15), .val (.ref b176), .val (.int (2 : Int32))] [(.int (2 : Int32)), (.ref a), (.ref b176), (.ref b132)])) (fun X t q => XS.iload X.here C.hx rfl (hb C.hby d2_95) rfl q) ?_
          refine Wk.fLdI C FB2_0 (i := 2) (by decide) (by decide) (by decide) (v := (.int p2)) (by simp [up]) d2_97 ?_
          show Wk _ p l e _ s m _ below meth c n0 _ hB2 7 28 (mkF m 98 #[.val (.ref a), .val (.int (4 : Int32)), .val (.ref b2), .val (.ref b15), .val (.ref b176), .val (.int (2 : Int32))] [(.int p2), (.ref b176), (.ref b132)])
          refine Wk.st (g' := (mkF m 99 #[.val (.ref a), .val (.int (4 : Int32)), .val (.ref b2), .val (.ref b15), .val (.ref b176), .val (.int (2 : Int32))] [(.int p2), (.ref b176), (.int p2), (.ref b176), (.ref b132)])) (fun X t q => XT.dup2 X.here C.hx rfl (hb C.hby d2_98) rfl rfl rfl q) ?_
          refine Wk.fLdI C FB2_2 (by rw [hq] <;> decide) hb302 (by decide) (v := (.int (cn [p1, p0] 3))) rfl d2_99 ?_
          show Wk _ p l e _ s m _ below meth c n0 _ hB2 7 28 (mkF m 100 #[.val (.ref a), .val (.int (4 : Int32)), .val (.ref b2), .val (.ref b15), .val (.ref b176), .val (.int (2 : Int32))] [(.int (cn [p1, p0] 3)), (.int p2), (.ref b176), (.ref b132)])
          refine Wk.st (g' := (mkF m 101 #[.val (.ref a), .val (.int (4 : Int32)), .val (.ref b2), .val (.ref b15), .val (.ref b176), .val (.int (2 : Int32))] [(.int (cn [p1, p0] 3)), (.int p2), (.ref b176), (.int (cn [p1, p0] 3)), (.ref b132)])) (fun X t q => dupX2 X.here C.hx rfl (hb C.hby d2_100) rfl rfl rfl rfl q) ?_
          refine Wk.st (g' := (mkF m 102 #[.val (.ref a), .val (.int (4 : Int32)), .val (.ref b2), .val (.ref b15), .val (.ref b176), .val (.int (2 : Int32))] [(.int (1 : Int32)), (.int (cn [p1, p0] 3)), (.int p2), (.ref b176), (.int (cn [p1, p0] 3)), (.ref b132)])) (fun X t q => XS.iconst X.here C.hx rfl (hb C.hby d2_101) q) ?_
          refine Wk.st (g' := (mkF m 103 #[.val (.ref a), .val (.int (4 : Int32)), .val (.ref b2), .val (.ref b15), .val (.ref b176), .val (.int (2 : Int32))] [(.int ((cn [p1, p0] 3) + (1 : Int32))), (.int p2), (.ref b176), (.int (cn [p1, p0] 3)), (.ref b132)])) (fun X t q => XS.iadd X.here C.hx rfl (hb C.hby d2_102) rfl q) ?_
          refine Wk.fStI C FB2_2 (by rw [hq] <;> decide) hb302 (by decide) ge188 d2_103 ?_
          intro h375 W376 F377
          have F378 : Fa Z h375 a .int 4 (up (up (up (up (fun _ => (.int (0 : Int32))) 0 (.int p0)) 1 (.int p1)) 2 (.int p2)) 3 (.int p3)) := FB2_0.other W376 ne181
          have F379 : FaA Z h375 b15 .int "[I" 4 (up (up (up (up (fun _ => .null) 0 (.ref b30)) 1 (.ref b59)) 2 (.ref b93)) 3 (.ref b132)) := FB2_1.other W376 ne183
          have F380 : Fa Z h375 b30 .int (cn [p3, p2, p1, p0] 0).toNatClampNeg (fun t => (.int (gk [p1, p0] 0 t))) := FB2_3.other W376 ne184
          have F381 : Fa Z h375 b59 .int (cn [p3, p2, p1, p0] 1).toNatClampNeg (fun t => (.int (gk [p1, p0] 1 t))) := FB2_4.other W376 ne185
          have F382 : Fa Z h375 b93 .int (cn [p3, p2, p1, p0] 2).toNatClampNeg (fun t => (.int (gk [p1, p0] 2 t))) := FB2_5.other W376 ne186
          have F383 : Fa Z h375 b132 .int (cn [p3, p2, p1, p0] 3).toNatClampNeg (fun t => (.int (gk [p1, p0] 3 t))) := FB2_6.other W376 ne187
          have sz384 : n0 ≤ h375.size := Nat.le_trans sz_B2 (Nat.le_of_eq W376.size.symm)
          have sy385 : h0.size ≤ h375.size := Nat.le_trans sz0_B2 (Nat.le_of_eq W376.size.symm)
          have K386 := K_B2.wr W376 (Or.inr gz189)
          show Wk _ p l e _ s m _ below meth c n0 _ h375 7 28 (mkF m 104 #[.val (.ref a), .val (.int (4 : Int32)), .val (.ref b2), .val (.ref b15), .val (.ref b176), .val (.int (2 : Int32))] [(.int (cn [p1, p0] 3)), (.ref b132)])
          refine Wk.st (g' := (mkF m 106 #[.val (.ref a), .val (.int (4 : Int32)), .val (.ref b2), .val (.ref b15), .val (.ref b176), .val (.int (2 : Int32))] [(.int (2 : Int32)), (.int (cn [p1, p0] 3)), (.ref b132)])) (fun X t q => XS.iload X.here C.hx rfl (hb C.hby d2_104) rfl q) ?_
          refine Wk.fStI C F383 rfl (cn_nn _ _ (Nat.le_of_ble_eq_true rfl)) (cn_lt (m := [p3]) (p := p2) (l := [p1, p0]) (Nat.le_of_ble_eq_true rfl) (by rw [hq] <;> rfl)) ge143 d2_106 ?_
          intro h387 W388 F389
          have F390 : Fa Z h387 a .int 4 (up (up (up (up (fun _ => (.int (0 : Int32))) 0 (.int p0)) 1 (.int p1)) 2 (.int p2)) 3 (.int p3)) := F378.other W388 ne137
          have F391 : FaA Z h387 b15 .int "[I" 4 (up (up (up (up (fun _ => .null) 0 (.ref b30)) 1 (.ref b59)) 2 (.ref b93)) 3 (.ref b132)) := F379.other W388 ne139
          have F392 : Fa Z h387 b30 .int (cn [p3, p2, p1, p0] 0).toNatClampNeg (fun t => (.int (gk [p1, p0] 0 t))) := F380.other W388 ne140
          have F393 : Fa Z h387 b59 .int (cn [p3, p2, p1, p0] 1).toNatClampNeg (fun t => (.int (gk [p1, p0] 1 t))) := F381.other W388 ne141
          have F394 : Fa Z h387 b93 .int (cn [p3, p2, p1, p0] 2).toNatClampNeg (fun t => (.int (gk [p1, p0] 2 t))) := F382.other W388 ne142
          have F395 : Fa Z h387 b176 .int 4 (up (fun j => (.int (cn [p1, p0] j))) 3 (.int ((cn [p1, p0] 3) + (1 : Int32)))) := F377.other W388 (Ne.symm ne187)
          have sz396 : n0 ≤ h387.size := Nat.le_trans sz384 (Nat.le_of_eq W388.size.symm)
          have sy397 : h0.size ≤ h387.size := Nat.le_trans sy385 (Nat.le_of_eq W388.size.symm)
          have K398 := K386.wr W388 (Or.inr gz144)
          show Wk _ p l e _ s m _ below meth c n0 _ h387 7 28 (mkF m 107 #[.val (.ref a), .val (.int (4 : Int32)), .val (.ref b2), .val (.ref b15), .val (.ref b176), .val (.int (2 : Int32))] [])
          refine Wk.st (g' := (mkF m 110 #[.val (.ref a), .val (.int (4 : Int32)), .val (.ref b2), .val (.ref b15), .val (.ref b176), .val (.int (3 : Int32))] [])) (fun X t q => XS.iinc X.here C.hx rfl (hb C.hby d2_107) rfl (l' := #[.val (.ref a), .val (.int (4 : Int32)), .val (.ref b2), .val (.ref b15), .val (.ref b176), .val (.int (3 : Int32))]) rfl q) ?_
          refine Wk.st (g' := (mkF m 73 #[.val (.ref a), .val (.int (4 : Int32)), .val (.ref b2), .val (.ref b15), .val (.ref b176), .val (.int (3 : Int32))] [])) (fun X t q => XS.goto X.here C.hx rfl (pc0 := 110) (pc' := 73) rfl (hb C.hby d2_110) (by decide) (by decide) q) ?_
          exact JB3 h387 sz396 sy397 K398 F390 F391 (F395.congr (fun j hj => up_cn (by rw [hq] <;> rfl) j)) (F392.congr (fun t ht => no_gk (by rw [hq] <;> decide))) (F393.congr (fun t ht => no_gk (by rw [hq] <;> decide))) (F394.congr (fun t ht => no_gk (by rw [hq] <;> decide))) (F389.congr (fun t ht => up_gk (by rw [hq] <;> rfl) rfl t))
    have JB1 : ∀ (hB1 : Heap), n0 ≤ hB1.size → h0.size ≤ hB1.size → Keep h0 hB1 [] → Fa Z hB1 a .int 4 (up (up (up (up (fun _ => (.int (0 : Int32))) 0 (.int p0)) 1 (.int p1)) 2 (.int p2)) 3 (.int p3)) → FaA Z hB1 b15 .int "[I" 4 (up (up (up (up (fun _ => .null) 0 (.ref b30)) 1 (.ref b59)) 2 (.ref b93)) 3 (.ref b132)) → Fa Z hB1 b176 .int 4 (fun j => (.int (cn [p0] j))) → Fa Z hB1 b30 .int (cn [p3, p2, p1, p0] 0).toNatClampNeg (fun t => (.int (gk [p0] 0 t))) → Fa Z hB1 b59 .int (cn [p3, p2, p1, p0] 1).toNatClampNeg (fun t => (.int (gk [p0] 1 t))) → Fa Z hB1 b93 .int (cn [p3, p2, p1, p0] 2).toNatClampNeg (fun t => (.int (gk [p0] 2 t))) → Fa Z hB1 b132 .int (cn [p3, p2, p1, p0] 3).toNatClampNeg (fun t => (.int (gk [p0] 3 t))) → Wk false p l e ({ frames := 0, cells := 8, slots := 32, locals := 0 } : Room) s m #[(.ref a)] below meth c n0 (fun v h => ∃ ch c0 c1 c2 c3 : Addr, v = some (.ref ch) ∧ Keep h0 h [] ∧ h0.size ≤ ch ∧ h0.size ≤ c0 ∧ h0.size ≤ c1 ∧ h0.size ≤ c2 ∧ h0.size ≤ c3 ∧ FaA Z h ch .int "[I" 4 (up (up (up (up (fun _ => .null) 0 (.ref c0)) 1 (.ref c1)) 2 (.ref c2)) 3 (.ref c3)) ∧ Fa Z h c0 .int (cn [p3, p2, p1, p0] 0).toNatClampNeg (fun t => (.int (gk [p3, p2, p1, p0] 0 t))) ∧ Fa Z h c1 .int (cn [p3, p2, p1, p0] 1).toNatClampNeg (fun t => (.int (gk [p3, p2, p1, p0] 1 t))) ∧ Fa Z h c2 .int (cn [p3, p2, p1, p0] 2).toNatClampNeg (fun t => (.int (gk [p3, p2, p1, p0] 2 t))) ∧ Fa Z h c3 .int (cn [p3, p2, p1, p0] 3).toNatClampNeg (fun t => (.int (gk [p3, p2, p1, p0] 3 t)))) hB1 7 28 (mkF m 73 #[.val (.ref a), .val (.int (4 : Int32)), .val (.ref b2), .val (.ref b15), .val (.ref b176), .val (.int (1 : Int32))] []) := by
      intro hB1 sz_B1 sz0_B1 K_B1 FB1_0 FB1_1 FB1_2 FB1_3 FB1_4 FB1_5 FB1_6
      refine Wk.st (g' := (mkF m 75 #[.val (.ref a), .val (.int (4 : Int32)), .val (.ref b2), .val (.ref b15), .val (.ref b176), .val (.int (1 : Int32))] [(.int (1 : Int32))])) (fun X t q => XS.iload X.here C.hx rfl (hb C.hby d2_73) rfl q) ?_
      refine Wk.st (g' := (mkF m 76 #[.val (.ref a), .val (.int (4 : Int32)), .val (.ref b2), .val (.ref b15), .val (.ref b176), .val (.int (1 : Int32))] [(.int (4 : Int32)), (.int (1 : Int32))])) (fun X t q => XS.iloadN X.here C.hx rfl (hb C.hby d2_75) rfl q) ?_
      refine Wk.st (g' := (mkF m 79 #[.val (.ref a), .val (.int (4 : Int32)), .val (.ref b2), .val (.ref b15), .val (.ref b176), .val (.int (1 : Int32))] [])) (fun X t q => XS.icmpNo X.here C.hx rfl (hb C.hby d2_76) rfl (XT.ii_ge_f (by decide)) q) ?_
      refine Wk.st (g' := (mkF m 80 #[.val (.ref a), .val (.int (4 : Int32)), .val (.ref b2), .val (.ref b15), .val (.ref b176), .val (.int (1 : Int32))] [(.ref a)])) (fun X t q => XS.aloadN X.here C.hx rfl (hb C.hby d2_79) rfl rfl q) ?_
      refine Wk.st (g' := (mkF m 82 #[.val (.ref a), .val (.int (4 : Int32)), .val (.ref b2), .val (.ref b15), .val (.ref b176), .val (.int (1 : Int32))] [(.int (1 : Int32)), (.ref a)])) (fun X t q => XS.iload X.here C.hx rfl (hb C.hby d2_80) rfl q) ?_
      refine Wk.fLdI C FB1_0 (i := 1) (by decide) (by decide) (by decide) (v := (.int p1)) (by simp [up]) d2_82 ?_
      show Wk _ p l e _ s m _ below meth c n0 _ hB1 7 28 (mkF m 83 #[.val (.ref a), .val (.int (4 : Int32)), .val (.ref b2), .val (.ref b15), .val (.ref b176), .val (.int (1 : Int32))] [(.int p1)])
      by_cases hb399 : p1 < (0 : Int32)
      · skip
        refine Wk.st (g' := (mkF m 107 #[.val (.ref a), .val (.int (4 : Int32)), .val (.ref b2), .val (.ref b15), .val (.ref b176), .val (.int (1 : Int32))] [])) (fun X t q => XS.ifYes X.here C.hx rfl (pc0 := 83) (pc' := 107) rfl (hb C.hby d2_83) rfl (XT.i0_lt_t hb399) (by decide) (by decide) q) ?_
        refine Wk.st (g' := (mkF m 110 #[.val (.ref a), .val (.int (4 : Int32)), .val (.ref b2), .val (.ref b15), .val (.ref b176), .val (.int (2 : Int32))] [])) (fun X t q => XS.iinc X.here C.hx rfl (hb C.hby d2_107) rfl (l' := #[.val (.ref a), .val (.int (4 : Int32)), .val (.ref b2), .val (.ref b15), .val (.ref b176), .val (.int (2 : Int32))]) rfl q) ?_
        refine Wk.st (g' := (mkF m 73 #[.val (.ref a), .val (.int (4 : Int32)), .val (.ref b2), .val (.ref b15), .val (.ref b176), .val (.int (2 : Int32))] [])) (fun X t q => XS.goto X.here C.hx rfl (pc0 := 110) (pc' := 73) rfl (hb C.hby d2_110) (by decide) (by decide) q) ?_
        exact JB2 hB1 sz_B1 sz0_B1 K_B1 FB1_0 FB1_1 (FB1_2.congr (fun j hj => no_cn (neg_ne hb399 j))) (FB1_3.congr (fun t ht => no_gk (neg_ne hb399 0))) (FB1_4.congr (fun t ht => no_gk (neg_ne hb399 1))) (FB1_5.congr (fun t ht => no_gk (neg_ne hb399 2))) (FB1_6.congr (fun t ht => no_gk (neg_ne hb399 3)))
      · skip
        refine Wk.st (g' := (mkF m 86 #[.val (.ref a), .val (.int (4 : Int32)), .val (.ref b2), .val (.ref b15), .val (.ref b176), .val (.int (1 : Int32))] [])) (fun X t q => XS.ifNo X.here C.hx rfl (hb C.hby d2_83) rfl (XT.i0_lt_f hb399) q) ?_
        refine Wk.st (g' := (mkF m 87 #[.val (.ref a), .val (.int (4 : Int32)), .val (.ref b2), .val (.ref b15), .val (.ref b176), .val (.int (1 : Int32))] [(.ref b15)])) (fun X t q => XS.aloadN X.here C.hx rfl (hb C.hby d2_86) rfl rfl q) ?_
        refine Wk.st (g' := (mkF m 88 #[.val (.ref a), .val (.int (4 : Int32)), .val (.ref b2), .val (.ref b15), .val (.ref b176), .val (.int (1 : Int32))] [(.ref a), (.ref b15)])) (fun X t q => XS.aloadN X.here C.hx rfl (hb C.hby d2_87) rfl rfl q) ?_
        refine Wk.st (g' := (mkF m 90 #[.val (.ref a), .val (.int (4 : Int32)), .val (.ref b2), .val (.ref b15), .val (.ref b176), .val (.int (1 : Int32))] [(.int (1 : Int32)), (.ref a), (.ref b15)])) (fun X t q => XS.iload X.here C.hx rfl (hb C.hby d2_88) rfl q) ?_
        refine Wk.fLdI C FB1_0 (i := 1) (by decide) (by decide) (by decide) (v := (.int p1)) (by simp [up]) d2_90 ?_
        show Wk _ p l e _ s m _ below meth c n0 _ hB1 7 28 (mkF m 91 #[.val (.ref a), .val (.int (4 : Int32)), .val (.ref b2), .val (.ref b15), .val (.ref b176), .val (.int (1 : Int32))] [(.int p1), (.ref b15)])
        rcases four hb399 r1 with hq | hq | hq | hq
        · skip
          refine Wk.fLdA C FB1_1 (by rw [hq] <;> decide) hb399 (by decide) (v := (.ref b30)) (by simp [up]) d2_91 ?_
          show Wk _ p l e _ s m _ below meth c n0 _ hB1 7 28 (mkF m 92 #[.val (.ref a), .val (.int (4 : Int32)), .val (.ref b2), .val (.ref b15), .val (.ref b176), .val (.int (1 : Int32))] [(.ref b30)])
          refine Wk.st (g' := (mkF m 94 #[.val (.ref a), .val (.int (4 : Int32)), .val (.ref b2), .val (.ref b15), .val (.ref b176), .val (.int (1 : Int32))] [(.ref b176), (.ref b30)])) (fun X t q => XS.aload X.here C.hx rfl (hb C.hby d2_92) rfl rfl q) ?_
          refine Wk.st (g' := (mkF m 95 #[.val (.ref a), .val (.int (4 : Int32)), .val (.ref b2), .val (.ref b15), .val (.ref b176), .val (.int (1 : Int32))] [(.ref a), (.ref b176), (.ref b30)])) (fun X t q => XS.aloadN X.here C.hx rfl (hb C.hby d2_94) rfl rfl q) ?_
          refine Wk.st (g' := (mkF m 97 #[.val (.ref a), .val (.int (4 : Int32)), .val (.ref b2), .val (.ref b15), .val (.ref b176), .val (.int (1 : Int32))] [(.int (1 : Int32)), (.ref a), (.ref b176), (.ref b30)])) (fun X t q => XS.iload X.here C.hx rfl (hb C.hby d2_95) rfl q) ?_
          refine Wk.fLdI C FB1_0 (i := 1) (by decide) (by decide) (by decide) (v := (.int p1)) (by simp [up]) d2_97 ?_
          show Wk _ p l e _ s m _ below meth c n0 _ hB1 7 28 (mkF m 98 #[.val (.ref a), .val (.int (4 : Int32)), .val (.ref b2), .val (.ref b15), .val (.ref b176), .val (.int (1 : Int32))] [(.int p1), (.ref b176), (.ref b30)])
          refine Wk.st (g' := (mkF m 99 #[.val (.ref a), .val (.int (4 : Int32)), .val (.ref b2), .val (.ref b15), .val (.ref b176), .val (.int (1 : Int32))] [(.int p1), (.ref b176), (.int p1), (.ref b176), (.ref b30)])) (fun X t q => XT.dup2 X.here C.hx rfl (hb C.hby d2_98) rfl rfl rfl q) ?_
          refine Wk.fLdI C FB1_2 (by rw [hq] <;> decide) hb399 (by decide) (v := (.int (cn [p0] 0))) rfl d2_99 ?_
          show Wk _ p l e _ s m _ below meth c n0 _ hB1 7 28 (mkF m 100 #[.val (.ref a), .val (.int (4 : Int32)), .val (.ref b2), .val (.ref b15), .val (.ref b176), .val (.int (1 : Int32))] [(.int (cn [p0] 0)), (.int p1), (.ref b176), (.ref b30)])
          refine Wk.st (g' := (mkF m 101 #[.val (.ref a), .val (.int (4 : Int32)), .val (.ref b2), .val (.ref b15), .val (.ref b176), .val (.int (1 : Int32))] [(.int (cn [p0] 0)), (.int p1), (.ref b176), (.int (cn [p0] 0)), (.ref b30)])) (fun X t q => dupX2 X.here C.hx rfl (hb C.hby d2_100) rfl rfl rfl rfl q) ?_
          refine Wk.st (g' := (mkF m 102 #[.val (.ref a), .val (.int (4 : Int32)), .val (.ref b2), .val (.ref b15), .val (.ref b176), .val (.int (1 : Int32))] [(.int (1 : Int32)), (.int (cn [p0] 0)), (.int p1), (.ref b176), (.int (cn [p0] 0)), (.ref b30)])) (fun X t q => XS.iconst X.here C.hx rfl (hb C.hby d2_101) q) ?_
          refine Wk.st (g' := (mkF m 103 #[.val (.ref a), .val (.int (4 : Int32)), .val (.ref b2), .val (.ref b15), .val (.ref b176), .val (.int (1 : Int32))] [(.int ((cn [p0] 0) + (1 : Int32))), (.int p1), (.ref b176), (.int (cn [p0] 0)), (.ref b30)])) (fun X t q => XS.iadd X.here C.hx rfl (hb C.hby d2_102) rfl q) ?_
          refine Wk.fStI C FB1_2 (by rw [hq] <;> decide) hb399 (by decide) ge188 d2_103 ?_
          intro h400 W401 F402
          have F403 : Fa Z h400 a .int 4 (up (up (up (up (fun _ => (.int (0 : Int32))) 0 (.int p0)) 1 (.int p1)) 2 (.int p2)) 3 (.int p3)) := FB1_0.other W401 ne181
          have F404 : FaA Z h400 b15 .int "[I" 4 (up (up (up (up (fun _ => .null) 0 (.ref b30)) 1 (.ref b59)) 2 (.ref b93)) 3 (.ref b132)) := FB1_1.other W401 ne183
          have F405 : Fa Z h400 b30 .int (cn [p3, p2, p1, p0] 0).toNatClampNeg (fun t => (.int (gk [p0] 0 t))) := FB1_3.other W401 ne184
          have F406 : Fa Z h400 b59 .int (cn [p3, p2, p1, p0] 1).toNatClampNeg (fun t => (.int (gk [p0] 1 t))) := FB1_4.other W401 ne185
          have F407 : Fa Z h400 b93 .int (cn [p3, p2, p1, p0] 2).toNatClampNeg (fun t => (.int (gk [p0] 2 t))) := FB1_5.other W401 ne186
          have F408 : Fa Z h400 b132 .int (cn [p3, p2, p1, p0] 3).toNatClampNeg (fun t => (.int (gk [p0] 3 t))) := FB1_6.other W401 ne187
          have sz409 : n0 ≤ h400.size := Nat.le_trans sz_B1 (Nat.le_of_eq W401.size.symm)
          have sy410 : h0.size ≤ h400.size := Nat.le_trans sz0_B1 (Nat.le_of_eq W401.size.symm)
          have K411 := K_B1.wr W401 (Or.inr gz189)
          show Wk _ p l e _ s m _ below meth c n0 _ h400 7 28 (mkF m 104 #[.val (.ref a), .val (.int (4 : Int32)), .val (.ref b2), .val (.ref b15), .val (.ref b176), .val (.int (1 : Int32))] [(.int (cn [p0] 0)), (.ref b30)])
          refine Wk.st (g' := (mkF m 106 #[.val (.ref a), .val (.int (4 : Int32)), .val (.ref b2), .val (.ref b15), .val (.ref b176), .val (.int (1 : Int32))] [(.int (1 : Int32)), (.int (cn [p0] 0)), (.ref b30)])) (fun X t q => XS.iload X.here C.hx rfl (hb C.hby d2_104) rfl q) ?_
          refine Wk.fStI C F405 rfl (cn_nn _ _ (Nat.le_of_ble_eq_true rfl)) (cn_lt (m := [p3, p2]) (p := p1) (l := [p0]) (Nat.le_of_ble_eq_true rfl) (by rw [hq] <;> rfl)) ge38 d2_106 ?_
          intro h412 W413 F414
          have F415 : Fa Z h412 a .int 4 (up (up (up (up (fun _ => (.int (0 : Int32))) 0 (.int p0)) 1 (.int p1)) 2 (.int p2)) 3 (.int p3)) := F403.other W413 ne35
          have F416 : FaA Z h412 b15 .int "[I" 4 (up (up (up (up (fun _ => .null) 0 (.ref b30)) 1 (.ref b59)) 2 (.ref b93)) 3 (.ref b132)) := F404.other W413 ne37
          have F417 : Fa Z h412 b59 .int (cn [p3, p2, p1, p0] 1).toNatClampNeg (fun t => (.int (gk [p0] 1 t))) := F406.other W413 (Ne.symm ne67)
          have F418 : Fa Z h412 b93 .int (cn [p3, p2, p1, p0] 2).toNatClampNeg (fun t => (.int (gk [p0] 2 t))) := F407.other W413 (Ne.symm ne101)
          have F419 : Fa Z h412 b132 .int (cn [p3, p2, p1, p0] 3).toNatClampNeg (fun t => (.int (gk [p0] 3 t))) := F408.other W413 (Ne.symm ne140)
          have F420 : Fa Z h412 b176 .int 4 (up (fun j => (.int (cn [p0] j))) 0 (.int ((cn [p0] 0) + (1 : Int32)))) := F402.other W413 (Ne.symm ne184)
          have sz421 : n0 ≤ h412.size := Nat.le_trans sz409 (Nat.le_of_eq W413.size.symm)
          have sy422 : h0.size ≤ h412.size := Nat.le_trans sy410 (Nat.le_of_eq W413.size.symm)
          have K423 := K411.wr W413 (Or.inr gz39)
          show Wk _ p l e _ s m _ below meth c n0 _ h412 7 28 (mkF m 107 #[.val (.ref a), .val (.int (4 : Int32)), .val (.ref b2), .val (.ref b15), .val (.ref b176), .val (.int (1 : Int32))] [])
          refine Wk.st (g' := (mkF m 110 #[.val (.ref a), .val (.int (4 : Int32)), .val (.ref b2), .val (.ref b15), .val (.ref b176), .val (.int (2 : Int32))] [])) (fun X t q => XS.iinc X.here C.hx rfl (hb C.hby d2_107) rfl (l' := #[.val (.ref a), .val (.int (4 : Int32)), .val (.ref b2), .val (.ref b15), .val (.ref b176), .val (.int (2 : Int32))]) rfl q) ?_
          refine Wk.st (g' := (mkF m 73 #[.val (.ref a), .val (.int (4 : Int32)), .val (.ref b2), .val (.ref b15), .val (.ref b176), .val (.int (2 : Int32))] [])) (fun X t q => XS.goto X.here C.hx rfl (pc0 := 110) (pc' := 73) rfl (hb C.hby d2_110) (by decide) (by decide) q) ?_
          exact JB2 h412 sz421 sy422 K423 F415 F416 (F420.congr (fun j hj => up_cn (by rw [hq] <;> rfl) j)) (F414.congr (fun t ht => up_gk (by rw [hq] <;> rfl) rfl t)) (F417.congr (fun t ht => no_gk (by rw [hq] <;> decide))) (F418.congr (fun t ht => no_gk (by rw [hq] <;> decide))) (F419.congr (fun t ht => no_gk (by rw [hq] <;> decide)))
        · skip
          refine Wk.fLdA C FB1_1 (by rw [hq] <;> decide) hb399 (by decide) (v := (.ref b59)) (by simp [up]) d2_91 ?_
          show Wk _ p l e _ s m _ below meth c n0 _ hB1 7 28 (mkF m 92 #[.val (.ref a), .val (.int (4 : Int32)), .val (.ref b2), .val (.ref b15), .val (.ref b176), .val (.int (1 : Int32))] [(.ref b59)])
          refine Wk.st (g' := (mkF m 94 #[.val (.ref a), .val (.int (4 : Int32)), .val (.ref b2), .val (.ref b15), .val (.ref b176), .val (.int (1 : Int32))] [(.ref b176), (.ref b59)])) (fun X t q => XS.aload X.here C.hx rfl (hb C.hby d2_92) rfl rfl q) ?_
          refine Wk.st (g' := (mkF m 95 #[.val (.ref a), .val (.int (4 : Int32)), .val (.ref b2), .val (.ref b15), .val (.ref b176), .val (.int (1 : Int32))] [(.ref a), (.ref b176), (.ref b59)])) (fun X t q => XS.aloadN X.here C.hx rfl (hb C.hby d2_94) rfl rfl q) ?_
          refine Wk.st (g' := (mkF m 97 #[.val (.ref a), .val (.int (4 : Int32)), .val (.ref b2), .val (.ref b15), .val (.ref b176), .val (.int (1 : Int32))] [(.int (1 : Int32)), (.ref a), (.ref b176), (.ref b59)])) (fun X t q => XS.iload X.here C.hx rfl (hb C.hby d2_95) rfl q) ?_
          refine Wk.fLdI C FB1_0 (i := 1) (by decide) (by decide) (by decide) (v := (.int p1)) (by simp [up]) d2_97 ?_
          show Wk _ p l e _ s m _ below meth c n0 _ hB1 7 28 (mkF m 98 #[.val (.ref a), .val (.int (4 : Int32)), .val (.ref b2), .val (.ref b15), .val (.ref b176), .val (.int (1 : Int32))] [(.int p1), (.ref b176), (.ref b59)])
          refine Wk.st (g' := (mkF m 99 #[.val (.ref a), .val (.int (4 : Int32)), .val (.ref b2), .val (.ref b15), .val (.ref b176), .val (.int (1 : Int32))] [(.int p1), (.ref b176), (.int p1), (.ref b176), (.ref b59)])) (fun X t q => XT.dup2 X.here C.hx rfl (hb C.hby d2_98) rfl rfl rfl q) ?_
          refine Wk.fLdI C FB1_2 (by rw [hq] <;> decide) hb399 (by decide) (v := (.int (cn [p0] 1))) rfl d2_99 ?_
          show Wk _ p l e _ s m _ below meth c n0 _ hB1 7 28 (mkF m 100 #[.val (.ref a), .val (.int (4 : Int32)), .val (.ref b2), .val (.ref b15), .val (.ref b176), .val (.int (1 : Int32))] [(.int (cn [p0] 1)), (.int p1), (.ref b176), (.ref b59)])
          refine Wk.st (g' := (mkF m 101 #[.val (.ref a), .val (.int (4 : Int32)), .val (.ref b2), .val (.ref b15), .val (.ref b176), .val (.int (1 : Int32))] [(.int (cn [p0] 1)), (.int p1), (.ref b176), (.int (cn [p0] 1)), (.ref b59)])) (fun X t q => dupX2 X.here C.hx rfl (hb C.hby d2_100) rfl rfl rfl rfl q) ?_
          refine Wk.st (g' := (mkF m 102 #[.val (.ref a), .val (.int (4 : Int32)), .val (.ref b2), .val (.ref b15), .val (.ref b176), .val (.int (1 : Int32))] [(.int (1 : Int32)), (.int (cn [p0] 1)), (.int p1), (.ref b176), (.int (cn [p0] 1)), (.ref b59)])) (fun X t q => XS.iconst X.here C.hx rfl (hb C.hby d2_101) q) ?_
          refine Wk.st (g' := (mkF m 103 #[.val (.ref a), .val (.int (4 : Int32)), .val (.ref b2), .val (.ref b15), .val (.ref b176), .val (.int (1 : Int32))] [(.int ((cn [p0] 1) + (1 : Int32))), (.int p1), (.ref b176), (.int (cn [p0] 1)), (.ref b59)])) (fun X t q => XS.iadd X.here C.hx rfl (hb C.hby d2_102) rfl q) ?_
          refine Wk.fStI C FB1_2 (by rw [hq] <;> decide) hb399 (by decide) ge188 d2_103 ?_
          intro h424 W425 F426
          have F427 : Fa Z h424 a .int 4 (up (up (up (up (fun _ => (.int (0 : Int32))) 0 (.int p0)) 1 (.int p1)) 2 (.int p2)) 3 (.int p3)) := FB1_0.other W425 ne181
          have F428 : FaA Z h424 b15 .int "[I" 4 (up (up (up (up (fun _ => .null) 0 (.ref b30)) 1 (.ref b59)) 2 (.ref b93)) 3 (.ref b132)) := FB1_1.other W425 ne183
          have F429 : Fa Z h424 b30 .int (cn [p3, p2, p1, p0] 0).toNatClampNeg (fun t => (.int (gk [p0] 0 t))) := FB1_3.other W425 ne184
          have F430 : Fa Z h424 b59 .int (cn [p3, p2, p1, p0] 1).toNatClampNeg (fun t => (.int (gk [p0] 1 t))) := FB1_4.other W425 ne185
          have F431 : Fa Z h424 b93 .int (cn [p3, p2, p1, p0] 2).toNatClampNeg (fun t => (.int (gk [p0] 2 t))) := FB1_5.other W425 ne186
          have F432 : Fa Z h424 b132 .int (cn [p3, p2, p1, p0] 3).toNatClampNeg (fun t => (.int (gk [p0] 3 t))) := FB1_6.other W425 ne187
          have sz433 : n0 ≤ h424.size := Nat.le_trans sz_B1 (Nat.le_of_eq W425.size.symm)
          have sy434 : h0.size ≤ h424.size := Nat.le_trans sz0_B1 (Nat.le_of_eq W425.size.symm)
          have K435 := K_B1.wr W425 (Or.inr gz189)
          show Wk _ p l e _ s m _ below meth c n0 _ h424 7 28 (mkF m 104 #[.val (.ref a), .val (.int (4 : Int32)), .val (.ref b2), .val (.ref b15), .val (.ref b176), .val (.int (1 : Int32))] [(.int (cn [p0] 1)), (.ref b59)])
          refine Wk.st (g' := (mkF m 106 #[.val (.ref a), .val (.int (4 : Int32)), .val (.ref b2), .val (.ref b15), .val (.ref b176), .val (.int (1 : Int32))] [(.int (1 : Int32)), (.int (cn [p0] 1)), (.ref b59)])) (fun X t q => XS.iload X.here C.hx rfl (hb C.hby d2_104) rfl q) ?_
          refine Wk.fStI C F430 rfl (cn_nn _ _ (Nat.le_of_ble_eq_true rfl)) (cn_lt (m := [p3, p2]) (p := p1) (l := [p0]) (Nat.le_of_ble_eq_true rfl) (by rw [hq] <;> rfl)) ge68 d2_106 ?_
          intro h436 W437 F438
          have F439 : Fa Z h436 a .int 4 (up (up (up (up (fun _ => (.int (0 : Int32))) 0 (.int p0)) 1 (.int p1)) 2 (.int p2)) 3 (.int p3)) := F427.other W437 ne64
          have F440 : FaA Z h436 b15 .int "[I" 4 (up (up (up (up (fun _ => .null) 0 (.ref b30)) 1 (.ref b59)) 2 (.ref b93)) 3 (.ref b132)) := F428.other W437 ne66
          have F441 : Fa Z h436 b30 .int (cn [p3, p2, p1, p0] 0).toNatClampNeg (fun t => (.int (gk [p0] 0 t))) := F429.other W437 ne67
          have F442 : Fa Z h436 b93 .int (cn [p3, p2, p1, p0] 2).toNatClampNeg (fun t => (.int (gk [p0] 2 t))) := F431.other W437 (Ne.symm ne102)
          have F443 : Fa Z h436 b132 .int (cn [p3, p2, p1, p0] 3).toNatClampNeg (fun t => (.int (gk [p0] 3 t))) := F432.other W437 (Ne.symm ne141)
          have F444 : Fa Z h436 b176 .int 4 (up (fun j => (.int (cn [p0] j))) 1 (.int ((cn [p0] 1) + (1 : Int32)))) := F426.other W437 (Ne.symm ne185)
          have sz445 : n0 ≤ h436.size := Nat.le_trans sz433 (Nat.le_of_eq W437.size.symm)
          have sy446 : h0.size ≤ h436.size := Nat.le_trans sy434 (Nat.le_of_eq W437.size.symm)
          have K447 := K435.wr W437 (Or.inr gz69)
          show Wk _ p l e _ s m _ below meth c n0 _ h436 7 28 (mkF m 107 #[.val (.ref a), .val (.int (4 : Int32)), .val (.ref b2), .val (.ref b15), .val (.ref b176), .val (.int (1 : Int32))] [])
          refine Wk.st (g' := (mkF m 110 #[.val (.ref a), .val (.int (4 : Int32)), .val (.ref b2), .val (.ref b15), .val (.ref b176), .val (.int (2 : Int32))] [])) (fun X t q => XS.iinc X.here C.hx rfl (hb C.hby d2_107) rfl (l' := #[.val (.ref a), .val (.int (4 : Int32)), .val (.ref b2), .val (.ref b15), .val (.ref b176), .val (.int (2 : Int32))]) rfl q) ?_
          refine Wk.st (g' := (mkF m 73 #[.val (.ref a), .val (.int (4 : Int32)), .val (.ref b2), .val (.ref b15), .val (.ref b176), .val (.int (2 : Int32))] [])) (fun X t q => XS.goto X.here C.hx rfl (pc0 := 110) (pc' := 73) rfl (hb C.hby d2_110) (by decide) (by decide) q) ?_
          exact JB2 h436 sz445 sy446 K447 F439 F440 (F444.congr (fun j hj => up_cn (by rw [hq] <;> rfl) j)) (F441.congr (fun t ht => no_gk (by rw [hq] <;> decide))) (F438.congr (fun t ht => up_gk (by rw [hq] <;> rfl) rfl t)) (F442.congr (fun t ht => no_gk (by rw [hq] <;> decide))) (F443.congr (fun t ht => no_gk (by rw [hq] <;> decide)))
        · skip
          refine Wk.fLdA C FB1_1 (by rw [hq] <;> decide) hb399 (by decide) (v := (.ref b93)) (by simp [up]) d2_91 ?_
          show Wk _ p l e _ s m _ below meth c n0 _ hB1 7 28 (mkF m 92 #[.val (.ref a), .val (.int (4 : Int32)), .val (.ref b2), .val (.ref b15), .val (.ref b176), .val (.int (1 : Int32))] [(.ref b93)])
          refine Wk.st (g' := (mkF m 94 #[.val (.ref a), .val (.int (4 : Int32)), .val (.ref b2), .val (.ref b15), .val (.ref b176), .val (.int (1 : Int32))] [(.ref b176), (.ref b93)])) (fun X t q => XS.aload X.here C.hx rfl (hb C.hby d2_92) rfl rfl q) ?_
          refine Wk.st (g' := (mkF m 95 #[.val (.ref a), .val (.int (4 : Int32)), .val (.ref b2), .val (.ref b15), .val (.ref b176), .val (.int (1 : Int32))] [(.ref a), (.ref b176), (.ref b93)])) (fun X t q => XS.aloadN X.here C.hx rfl (hb C.hby d2_94) rfl rfl q) ?_
          refine Wk.st (g' := (mkF m 97 #[.val (.ref a), .val (.int (4 : Int32)), .val (.ref b2), .val (.ref b15), .val (.ref b176), .val (.int (1 : Int32))] [(.int (1 : Int32)), (.ref a), (.ref b176), (.ref b93)])) (fun X t q => XS.iload X.here C.hx rfl (hb C.hby d2_95) rfl q) ?_
          refine Wk.fLdI C FB1_0 (i := 1) (by decide) (by decide) (by decide) (v := (.int p1)) (by simp [up]) d2_97 ?_
          show Wk _ p l e _ s m _ below meth c n0 _ hB1 7 28 (mkF m 98 #[.val (.ref a), .val (.int (4 : Int32)), .val (.ref b2), .val (.ref b15), .val (.ref b176), .val (.int (1 : Int32))] [(.int p1), (.ref b176), (.ref b93)])
          refine Wk.st (g' := (mkF m 99 #[.val (.ref a), .val (.int (4 : Int32)), .val (.ref b2), .val (.ref b15), .val (.ref b176), .val (.int (1 : Int32))] [(.int p1), (.ref b176), (.int p1), (.ref b176), (.ref b93)])) (fun X t q => XT.dup2 X.here C.hx rfl (hb C.hby d2_98) rfl rfl rfl q) ?_
          refine Wk.fLdI C FB1_2 (by rw [hq] <;> decide) hb399 (by decide) (v := (.int (cn [p0] 2))) rfl d2_99 ?_
          show Wk _ p l e _ s m _ below meth c n0 _ hB1 7 28 (mkF m 100 #[.val (.ref a), .val (.int (4 : Int32)), .val (.ref b2), .val (.ref b15), .val (.ref b176), .val (.int (1 : Int32))] [(.int (cn [p0] 2)), (.int p1), (.ref b176), (.ref b93)])
          refine Wk.st (g' := (mkF m 101 #[.val (.ref a), .val (.int (4 : Int32)), .val (.ref b2), .val (.ref b15), .val (.ref b176), .val (.int (1 : Int32))] [(.int (cn [p0] 2)), (.int p1), (.ref b176), (.int (cn [p0] 2)), (.ref b93)])) (fun X t q => dupX2 X.here C.hx rfl (hb C.hby d2_100) rfl rfl rfl rfl q) ?_
          refine Wk.st (g' := (mkF m 102 #[.val (.ref a), .val (.int (4 : Int32)), .val (.ref b2), .val (.ref b15), .val (.ref b176), .val (.int (1 : Int32))] [(.int (1 : Int32)), (.int (cn [p0] 2)), (.int p1), (.ref b176), (.int (cn [p0] 2)), (.ref b93)])) (fun X t q => XS.iconst X.here C.hx rfl (hb C.hby d2_101) q) ?_
          refine Wk.st (g' := (mkF m 103 #[.val (.ref a), .val (.int (4 : Int32)), .val (.ref b2), .val (.ref b15), .val (.ref b176), .val (.int (1 : Int32))] [(.int ((cn [p0] 2) + (1 : Int32))), (.int p1), (.ref b176), (.int (cn [p0] 2)), (.ref b93)])) (fun X t q => XS.iadd X.here C.hx rfl (hb C.hby d2_102) rfl q) ?_
          refine Wk.fStI C FB1_2 (by rw [hq] <;> decide) hb399 (by decide) ge188 d2_103 ?_
          intro h448 W449 F450
          have F451 : Fa Z h448 a .int 4 (up (up (up (up (fun _ => (.int (0 : Int32))) 0 (.int p0)) 1 (.int p1)) 2 (.int p2)) 3 (.int p3)) := FB1_0.other W449 ne181
          have F452 : FaA Z h448 b15 .int "[I" 4 (up (up (up (up (fun _ => .null) 0 (.ref b30)) 1 (.ref b59)) 2 (.ref b93)) 3 (.ref b132)) := FB1_1.other W449 ne183
          have F453 : Fa Z h448 b30 .int (cn [p3, p2, p1, p0] 0).toNatClampNeg (fun t => (.int (gk [p0] 0 t))) := FB1_3.other W449 ne184
          have F454 : Fa Z h448 b59 .int (cn [p3, p2, p1, p0] 1).toNatClampNeg (fun t => (.int (gk [p0] 1 t))) := FB1_4.other W449 ne185
          have F455 : Fa Z h448 b93 .int (cn [p3, p2, p1, p0] 2).toNatClampNeg (fun t => (.int (gk [p0] 2 t))) := FB1_5.other W449 ne186
          have F456 : Fa Z h448 b132 .int (cn [p3, p2, p1, p0] 3).toNatClampNeg (fun t => (.int (gk [p0] 3 t))) := FB1_6.other W449 ne187
          have sz457 : n0 ≤ h448.size := Nat.le_trans sz_B1 (Nat.le_of_eq W449.size.symm)
          have sy458 : h0.size ≤ h448.size := Nat.le_trans sz0_B1 (Nat.le_of_eq W449.size.symm)
          have K459 := K_B1.wr W449 (Or.inr gz189)
          show Wk _ p l e _ s m _ below meth c n0 _ h448 7 28 (mkF m 104 #[.val (.ref a), .val (.int (4 : Int32)), .val (.ref b2), .val (.ref b15), .val (.ref b176), .val (.int (1 : Int32))] [(.int (cn [p0] 2)), (.ref b93)])
          refine Wk.st (g' := (mkF m 106 #[.val (.ref a), .val (.int (4 : Int32)), .val (.ref b2), .val (.ref b15), .val (.ref b176), .val (.int (1 : Int32))] [(.int (1 : Int32)), (.int (cn [p0] 2)), (.ref b93)])) (fun X t q => XS.iload X.here C.hx rfl (hb C.hby d2_104) rfl q) ?_
          refine Wk.fStI C F455 rfl (cn_nn _ _ (Nat.le_of_ble_eq_true rfl)) (cn_lt (m := [p3, p2]) (p := p1) (l := [p0]) (Nat.le_of_ble_eq_true rfl) (by rw [hq] <;> rfl)) ge103 d2_106 ?_
          intro h460 W461 F462
          have F463 : Fa Z h460 a .int 4 (up (up (up (up (fun _ => (.int (0 : Int32))) 0 (.int p0)) 1 (.int p1)) 2 (.int p2)) 3 (.int p3)) := F451.other W461 ne98
          have F464 : FaA Z h460 b15 .int "[I" 4 (up (up (up (up (fun _ => .null) 0 (.ref b30)) 1 (.ref b59)) 2 (.ref b93)) 3 (.ref b132)) := F452.other W461 ne100
          have F465 : Fa Z h460 b30 .int (cn [p3, p2, p1, p0] 0).toNatClampNeg (fun t => (.int (gk [p0] 0 t))) := F453.other W461 ne101
          have F466 : Fa Z h460 b59 .int (cn [p3, p2, p1, p0] 1).toNatClampNeg (fun t => (.int (gk [p0] 1 t))) := F454.other W461 ne102
          have F467 : Fa Z h460 b132 .int (cn [p3, p2, p1, p0] 3).toNatClampNeg (fun t => (.int (gk [p0] 3 t))) := F456.other W461 (Ne.symm ne142)
          have F468 : Fa Z h460 b176 .int 4 (up (fun j => (.int (cn [p0] j))) 2 (.int ((cn [p0] 2) + (1 : Int32)))) := F450.other W461 (Ne.symm ne186)
          have sz469 : n0 ≤ h460.size := Nat.le_trans sz457 (Nat.le_of_eq W461.size.symm)
          have sy470 : h0.size ≤ h460.size := Nat.le_trans sy458 (Nat.le_of_eq W461.size.symm)
          have K471 := K459.wr W461 (Or.inr gz104)
          show Wk _ p l e _ s m _ below meth c n0 _ h460 7 28 (mkF m 107 #[.val (.ref a), .val (.int (4 : Int32)), .val (.ref b2), .val (.ref b15), .val (.ref b176), .val (.int (1 : Int32))] [])
          refine Wk.st (g' := (mkF m 110 #[.val (.ref a), .val (.int (4 : Int32)), .val (.ref b2), .val (.ref b15), .val (.ref b176), .val (.int (2 : Int32))] [])) (fun X t q => XS.iinc X.here C.hx rfl (hb C.hby d2_107) rfl (l' := #[.val (.ref a), .val (.int (4 : Int32)), .val (.ref b2), .val (.ref b15), .val (.ref b176), .val (.int (2 : Int32))]) rfl q) ?_
          refine Wk.st (g' := (mkF m 73 #[.val (.ref a), .val (.int (4 : Int32)), .val (.ref b2), .val (.ref b15), .val (.ref b176), .val (.int (2 : Int32))] [])) (fun X t q => XS.goto X.here C.hx rfl (pc0 := 110) (pc' := 73) rfl (hb C.hby d2_110) (by decide) (by decide) q) ?_
          exact JB2 h460 sz469 sy470 K471 F463 F464 (F468.congr (fun j hj => up_cn (by rw [hq] <;> rfl) j)) (F465.congr (fun t ht => no_gk (by rw [hq] <;> decide))) (F466.congr (fun t ht => no_gk (by rw [hq] <;> decide))) (F462.congr (fun t ht => up_gk (by rw [hq] <;> rfl) rfl t)) (F467.congr (fun t ht => no_gk (by rw [hq] <;> decide)))
        · skip
          refine Wk.fLdA C FB1_1 (by rw [hq] <;> decide) hb399 (by decide) (v := (.ref b132)) (by simp [up]) d2_91 ?_
          show Wk _ p l e _ s m _ below meth c n0 _ hB1 7 28 (mkF m 92 #[.val (.ref a), .val (.int (4 : Int32)), .val (.ref b2), .val (.ref b15), .val (.ref b176), .val (.int (1 : Int32))] [(.ref b132)])
          refine Wk.st (g' := (mkF m 94 #[.val (.ref a), .val (.int (4 : Int32)), .val (.ref b2), .val (.ref b15), .val (.ref b176), .val (.int (1 : Int32))] [(.ref b176), (.ref b132)])) (fun X t q => XS.aload X.here C.hx rfl (hb C.hby d2_92) rfl rfl q) ?_
          refine Wk.st (g' := (mkF m 95 #[.val (.ref a), .val (.int (4 : Int32)), .val (.ref b2), .val (.ref b15), .val (.ref b176), .val (.int (1 : Int32))] [(.ref a), (.ref b176), (.ref b132)])) (fun X t q => XS.aloadN X.here C.hx rfl (hb C.hby d2_94) rfl rfl q) ?_
          refine Wk.st (g' := (mkF m 97 #[.val (.ref a), .val (.int (4 : Int32)), .val (.ref b2), .val (.ref b15), .val (.ref b176), .val (.int (1 : Int32))] [(.int (1 : Int32)), (.ref a), (.ref b176), (.ref b132)])) (fun X t q => XS.iload X.here C.hx rfl (hb C.hby d2_95) rfl q) ?_
          refine Wk.fLdI C FB1_0 (i := 1) (by decide) (by decide) (by decide) (v := (.int p1)) (by simp [up]) d2_97 ?_
          show Wk _ p l e _ s m _ below meth c n0 _ hB1 7 28 (mkF m 98 #[.val (.ref a), .val (.int (4 : Int32)), .val (.ref b2), .val (.ref b15), .val (.ref b176), .val (.int (1 : Int32))] [(.int p1), (.ref b176), (.ref b132)])
          refine Wk.st (g' := (mkF m 99 #[.val (.ref a), .val (.int (4 : Int32)), .val (.ref b2), .val (.ref b15), .val (.ref b176), .val (.int (1 : Int32))] [(.int p1), (.ref b176), (.int p1), (.ref b176), (.ref b132)])) (fun X t q => XT.dup2 X.here C.hx rfl (hb C.hby d2_98) rfl rfl rfl q) ?_
          refine Wk.fLdI C FB1_2 (by rw [hq] <;> decide) hb399 (by decide) (v := (.int (cn [p0] 3))) rfl d2_99 ?_
          show Wk _ p l e _ s m _ below meth c n0 _ hB1 7 28 (mkF m 100 #[.val (.ref a), .val (.int (4 : Int32)), .val (.ref b2), .val (.ref b15), .val (.ref b176), .val (.int (1 : Int32))] [(.int (cn [p0] 3)), (.int p1), (.ref b176), (.ref b132)])
          refine Wk.st (g' := (mkF m 101 #[.val (.ref a), .val (.int (4 : Int32)), .val (.ref b2), .val (.ref b15), .val (.ref b176), .val (.int (1 : Int32))] [(.int (cn [p0] 3)), (.int p1), (.ref b176), (.int (cn [p0] 3)), (.ref b132)])) (fun X t q => dupX2 X.here C.hx rfl (hb C.hby d2_100) rfl rfl rfl rfl q) ?_
          refine Wk.st (g' := (mkF m 102 #[.val (.ref a), .val (.int (4 : Int32)), .val (.ref b2), .val (.ref b15), .val (.ref b176), .val (.int (1 : Int32))] [(.int (1 : Int32)), (.int (cn [p0] 3)), (.int p1), (.ref b176), (.int (cn [p0] 3)), (.ref b132)])) (fun X t q => XS.iconst X.here C.hx rfl (hb C.hby d2_101) q) ?_
          refine Wk.st (g' := (mkF m 103 #[.val (.ref a), .val (.int (4 : Int32)), .val (.ref b2), .val (.ref b15), .val (.ref b176), .val (.int (1 : Int32))] [(.int ((cn [p0] 3) + (1 : Int32))), (.int p1), (.ref b176), (.int (cn [p0] 3)), (.ref b132)])) (fun X t q => XS.iadd X.here C.hx rfl (hb C.hby d2_102) rfl q) ?_
          refine Wk.fStI C FB1_2 (by rw [hq] <;> decide) hb399 (by decide) ge188 d2_103 ?_
          intro h472 W473 F474
          have F475 : Fa Z h472 a .int 4 (up (up (up (up (fun _ => (.int (0 : Int32))) 0 (.int p0)) 1 (.int p1)) 2 (.int p2)) 3 (.int p3)) := FB1_0.other W473 ne181
          have F476 : FaA Z h472 b15 .int "[I" 4 (up (up (up (up (fun _ => .null) 0 (.ref b30)) 1 (.ref b59)) 2 (.ref b93)) 3 (.ref b132)) := FB1_1.other W473 ne183
          have F477 : Fa Z h472 b30 .int (cn [p3, p2, p1, p0] 0).toNatClampNeg (fun t => (.int (gk [p0] 0 t))) := FB1_3.other W473 ne184
          have F478 : Fa Z h472 b59 .int (cn [p3, p2, p1, p0] 1).toNatClampNeg (fun t => (.int (gk [p0] 1 t))) := FB1_4.other W473 ne185
          have F479 : Fa Z h472 b93 .int (cn [p3, p2, p1, p0] 2).toNatClampNeg (fun t => (.int (gk [p0] 2 t))) := FB1_5.other W473 ne186
          have F480 : Fa Z h472 b132 .int (cn [p3, p2, p1, p0] 3).toNatClampNeg (fun t => (.int (gk [p0] 3 t))) := FB1_6.other W473 ne187
          have sz481 : n0 ≤ h472.size := Nat.le_trans sz_B1 (Nat.le_of_eq W473.size.symm)
          have sy482 : h0.size ≤ h472.size := Nat.le_trans sz0_B1 (Nat.le_of_eq W473.size.symm)
          have K483 := K_B1.wr W473 (Or.inr gz189)
          show Wk _ p l e _ s m _ below meth c n0 _ h472 7 28 (mkF m 104 #[.val (.ref a), .val (.int (4 : Int32)), .val (.ref b2), .val (.ref b15), .val (.ref b176), .val (.int (1 : Int32))] [(.int (cn [p0] 3)), (.ref b132)])
          refine Wk.st (g' := (mkF m 106 #[.val (.ref a), .val (.int (4 : Int32)), .val (.ref b2), .val (.ref b15), .val (.ref b176), .val (.int (1 : Int32))] [(.int (1 : Int32)), (.int (cn [p0] 3)), (.ref b132)])) (fun X t q => XS.iload X.here C.hx rfl (hb C.hby d2_104) rfl q) ?_
          refine Wk.fStI C F480 rfl (cn_nn _ _ (Nat.le_of_ble_eq_true rfl)) (cn_lt (m := [p3, p2]) (p := p1) (l := [p0]) (Nat.le_of_ble_eq_true rfl) (by rw [hq] <;> rfl)) ge143 d2_106 ?_
          intro h484 W485 F486
          have F487 : Fa Z h484 a .int 4 (up (up (up (up (fun _ => (.int (0 : Int32))) 0 (.int p0)) 1 (.int p1)) 2 (.int p2)) 3 (.int p3)) := F475.other W485 ne137
          have F488 : FaA Z h484 b15 .int "[I" 4 (up (up (up (up (fun _ => .null) 0 (.ref b30)) 1 (.ref b59)) 2 (.ref b93)) 3 (.ref b132)) := F476.other W485 ne139
          have F489 : Fa Z h484 b30 .int (cn [p3, p2, p1, p0] 0).toNatClampNeg (fun t => (.int (gk [p0] 0 t))) := F477.other W485 ne140
          have F490 : Fa Z h484 b59 .int (cn [p3, p2, p1, p0] 1).toNatClampNeg (fun t => (.int (gk [p0] 1 t))) := F478.other W485 ne141
          have F491 : Fa Z h484 b93 .int (cn [p3, p2, p1, p0] 2).toNatClampNeg (fun t => (.int (gk [p0] 2 t))) := F479.other W485 ne142
          have F492 : Fa Z h484 b176 .int 4 (up (fun j => (.int (cn [p0] j))) 3 (.int ((cn [p0] 3) + (1 : Int32)))) := F474.other W485 (Ne.symm ne187)
          have sz493 : n0 ≤ h484.size := Nat.le_trans sz481 (Nat.le_of_eq W485.size.symm)
          have sy494 : h0.size ≤ h484.size := Nat.le_trans sy482 (Nat.le_of_eq W485.size.symm)
          have K495 := K483.wr W485 (Or.inr gz144)
          show Wk _ p l e _ s m _ below meth c n0 _ h484 7 28 (mkF m 107 #[.val (.ref a), .val (.int (4 : Int32)), .val (.ref b2), .val (.ref b15), .val (.ref b176), .val (.int (1 : Int32))] [])
          refine Wk.st (g' := (mkF m 110 #[.val (.ref a), .val (.int (4 : Int32)), .val (.ref b2), .val (.ref b15), .val (.ref b176), .val (.int (2 : Int32))] [])) (fun X t q => XS.iinc X.here C.hx rfl (hb C.hby d2_107) rfl (l' := #[.val (.ref a), .val (.int (4 : Int32)), .val (.ref b2), .val (.ref b15), .val (.ref b176), .val (.int (2 : Int32))]) rfl q) ?_
          refine Wk.st (g' := (mkF m 73 #[.val (.ref a), .val (.int (4 : Int32)), .val (.ref b2), .val (.ref b15), .val (.ref b176), .val (.int (2 : Int32))] [])) (fun X t q => XS.goto X.here C.hx rfl (pc0 := 110) (pc' := 73) rfl (hb C.hby d2_110) (by decide) (by decide) q) ?_
          exact JB2 h484 sz493 sy494 K495 F487 F488 (F492.congr (fun j hj => up_cn (by rw [hq] <;> rfl) j)) (F489.congr (fun t ht => no_gk (by rw [hq] <;> decide))) (F490.congr (fun t ht => no_gk (by rw [hq] <;> decide))) (F491.congr (fun t ht => no_gk (by rw [hq] <;> decide))) (F486.congr (fun t ht => up_gk (by rw [hq] <;> rfl) rfl t))
    have JB0 : ∀ (hB0 : Heap), n0 ≤ hB0.size → h0.size ≤ hB0.size → Keep h0 hB0 [] → Fa Z hB0 a .int 4 (up (up (up (up (fun _ => (.int (0 : Int32))) 0 (.int p0)) 1 (.int p1)) 2 (.int p2)) 3 (.int p3)) → FaA Z hB0 b15 .int "[I" 4 (up (up (up (up (fun _ => .null) 0 (.ref b30)) 1 (.ref b59)) 2 (.ref b93)) 3 (.ref b132)) → Fa Z hB0 b176 .int 4 (fun j => (.int (cn [] j))) → Fa Z hB0 b30 .int (cn [p3, p2, p1, p0] 0).toNatClampNeg (fun t => (.int (gk [] 0 t))) → Fa Z hB0 b59 .int (cn [p3, p2, p1, p0] 1).toNatClampNeg (fun t => (.int (gk [] 1 t))) → Fa Z hB0 b93 .int (cn [p3, p2, p1, p0] 2).toNatClampNeg (fun t => (.int (gk [] 2 t))) → Fa Z hB0 b132 .int (cn [p3, p2, p1, p0] 3).toNatClampNeg (fun t => (.int (gk [] 3 t))) → Wk false p l e ({ frames := 0, cells := 8, slots := 32, locals := 0 } : Room) s m #[(.ref a)] below meth c n0 (fun v h => ∃ ch c0 c1 c2 c3 : Addr, v = some (.ref ch) ∧ Keep h0 h [] ∧ h0.size ≤ ch ∧ h0.size ≤ c0 ∧ h0.size ≤ c1 ∧ h0.size ≤ c2 ∧ h0.size ≤ c3 ∧ FaA Z h ch .int "[I" 4 (up (up (up (up (fun _ => .null) 0 (.ref c0)) 1 (.ref c1)) 2 (.ref c2)) 3 (.ref c3)) ∧ Fa Z h c0 .int (cn [p3, p2, p1, p0] 0).toNatClampNeg (fun t => (.int (gk [p3, p2, p1, p0] 0 t))) ∧ Fa Z h c1 .int (cn [p3, p2, p1, p0] 1).toNatClampNeg (fun t => (.int (gk [p3, p2, p1, p0] 1 t))) ∧ Fa Z h c2 .int (cn [p3, p2, p1, p0] 2).toNatClampNeg (fun t => (.int (gk [p3, p2, p1, p0] 2 t))) ∧ Fa Z h c3 .int (cn [p3, p2, p1, p0] 3).toNatClampNeg (fun t => (.int (gk [p3, p2, p1, p0] 3 t)))) hB0 7 28 (mkF m 73 #[.val (.ref a), .val (.int (4 : Int32)), .val (.ref b2), .val (.ref b15), .val (.ref b176), .val (.int (0 : Int32))] []) := by
      intro hB0 sz_B0 sz0_B0 K_B0 FB0_0 FB0_1 FB0_2 FB0_3 FB0_4 FB0_5 FB0_6
      refine Wk.st (g' := (mkF m 75 #[.val (.ref a), .val (.int (4 : Int32)), .val (.ref b2), .val (.ref b15), .val (.ref b176), .val (.int (0 : Int32))] [(.int (0 : Int32))])) (fun X t q => XS.iload X.here C.hx rfl (hb C.hby d2_73) rfl q) ?_
      refine Wk.st (g' := (mkF m 76 #[.val (.ref a), .val (.int (4 : Int32)), .val (.ref b2), .val (.ref b15), .val (.ref b176), .val (.int (0 : Int32))] [(.int (4 : Int32)), (.int (0 : Int32))])) (fun X t q => XS.iloadN X.here C.hx rfl (hb C.hby d2_75) rfl q) ?_
      refine Wk.st (g' := (mkF m 79 #[.val (.ref a), .val (.int (4 : Int32)), .val (.ref b2), .val (.ref b15), .val (.ref b176), .val (.int (0 : Int32))] [])) (fun X t q => XS.icmpNo X.here C.hx rfl (hb C.hby d2_76) rfl (XT.ii_ge_f (by decide)) q) ?_
      refine Wk.st (g' := (mkF m 80 #[.val (.ref a), .val (.int (4 : Int32)), .val (.ref b2), .val (.ref b15), .val (.ref b176), .val (.int (0 : Int32))] [(.ref a)])) (fun X t q => XS.aloadN X.here C.hx rfl (hb C.hby d2_79) rfl rfl q) ?_
      refine Wk.st (g' := (mkF m 82 #[.val (.ref a), .val (.int (4 : Int32)), .val (.ref b2), .val (.ref b15), .val (.ref b176), .val (.int (0 : Int32))] [(.int (0 : Int32)), (.ref a)])) (fun X t q => XS.iload X.here C.hx rfl (hb C.hby d2_80) rfl q) ?_
      refine Wk.fLdI C FB0_0 (i := 0) (by decide) (by decide) (by decide) (v := (.int p0)) (by simp [up]) d2_82 ?_
      show Wk _ p l e _ s m _ below meth c n0 _ hB0 7 28 (mkF m 83 #[.val (.ref a), .val (.int (4 : Int32)), .val (.ref b2), .val (.ref b15), .val (.ref b176), .val (.int (0 : Int32))] [(.int p0)])
      by_cases hb496 : p0 < (0 : Int32)
      · skip
        refine Wk.st (g' := (mkF m 107 #[.val (.ref a), .val (.int (4 : Int32)), .val (.ref b2), .val (.ref b15), .val (.ref b176), .val (.int (0 : Int32))] [])) (fun X t q => XS.ifYes X.here C.hx rfl (pc0 := 83) (pc' := 107) rfl (hb C.hby d2_83) rfl (XT.i0_lt_t hb496) (by decide) (by decide) q) ?_
        refine Wk.st (g' := (mkF m 110 #[.val (.ref a), .val (.int (4 : Int32)), .val (.ref b2), .val (.ref b15), .val (.ref b176), .val (.int (1 : Int32))] [])) (fun X t q => XS.iinc X.here C.hx rfl (hb C.hby d2_107) rfl (l' := #[.val (.ref a), .val (.int (4 : Int32)), .val (.ref b2), .val (.ref b15), .val (.ref b176), .val (.int (1 : Int32))]) rfl q) ?_
        refine Wk.st (g' := (mkF m 73 #[.val (.ref a), .val (.int (4 : Int32)), .val (.ref b2), .val (.ref b15), .val (.ref b176), .val (.int (1 : Int32))] [])) (fun X t q => XS.goto X.here C.hx rfl (pc0 := 110) (pc' := 73) rfl (hb C.hby d2_110) (by decide) (by decide) q) ?_
        exact JB1 hB0 sz_B0 sz0_B0 K_B0 FB0_0 FB0_1 (FB0_2.congr (fun j hj => no_cn (neg_ne hb496 j))) (FB0_3.congr (fun t ht => no_gk (neg_ne hb496 0))) (FB0_4.congr (fun t ht => no_gk (neg_ne hb496 1))) (FB0_5.congr (fun t ht => no_gk (neg_ne hb496 2))) (FB0_6.congr (fun t ht => no_gk (neg_ne hb496 3)))
      · skip
        refine Wk.st (g' := (mkF m 86 #[.val (.ref a), .val (.int (4 : Int32)), .val (.ref b2), .val (.ref b15), .val (.ref b176), .val (.int (0 : Int32))] [])) (fun X t q => XS.ifNo X.here C.hx rfl (hb C.hby d2_83) rfl (XT.i0_lt_f hb496) q) ?_
        refine Wk.st (g' := (mkF m 87 #[.val (.ref a), .val (.int (4 : Int32)), .val (.ref b2), .val (.ref b15), .val (.ref b176), .val (.int (0 : Int32))] [(.ref b15)])) (fun X t q => XS.aloadN X.here C.hx rfl (hb C.hby d2_86) rfl rfl q) ?_
        refine Wk.st (g' := (mkF m 88 #[.val (.ref a), .val (.int (4 : Int32)), .val (.ref b2), .val (.ref b15), .val (.ref b176), .val (.int (0 : Int32))] [(.ref a), (.ref b15)])) (fun X t q => XS.aloadN X.here C.hx rfl (hb C.hby d2_87) rfl rfl q) ?_
        refine Wk.st (g' := (mkF m 90 #[.val (.ref a), .val (.int (4 : Int32)), .val (.ref b2), .val (.ref b15), .val (.ref b176), .val (.int (0 : Int32))] [(.int (0 : Int32)), (.ref a), (.ref b15)])) (fun X t q => XS.iload X.here C.hx rfl (hb C.hby d2_88) rfl q) ?_
        refine Wk.fLdI C FB0_0 (i := 0) (by decide) (by decide) (by decide) (v := (.int p0)) (by simp [up]) d2_90 ?_
        show Wk _ p l e _ s m _ below meth c n0 _ hB0 7 28 (mkF m 91 #[.val (.ref a), .val (.int (4 : Int32)), .val (.ref b2), .val (.ref b15), .val (.ref b176), .val (.int (0 : Int32))] [(.int p0), (.ref b15)])
        rcases four hb496 r0 with hq | hq | hq | hq
        · skip
          refine Wk.fLdA C FB0_1 (by rw [hq] <;> decide) hb496 (by decide) (v := (.ref b30)) (by simp [up]) d2_91 ?_
          show Wk _ p l e _ s m _ below meth c n0 _ hB0 7 28 (mkF m 92 #[.val (.ref a), .val (.int (4 : Int32)), .val (.ref b2), .val (.ref b15), .val (.ref b176), .val (.int (0 : Int32))] [(.ref b30)])
          refine Wk.st (g' := (mkF m 94 #[.val (.ref a), .val (.int (4 : Int32)), .val (.ref b2), .val (.ref b15), .val (.ref b176), .val (.int (0 : Int32))] [(.ref b176), (.ref b30)])) (fun X t q => XS.aload X.here C.hx rfl (hb C.hby d2_92) rfl rfl q) ?_
          refine Wk.st (g' := (mkF m 95 #[.val (.ref a), .val (.int (4 : Int32)), .val (.ref b2), .val (.ref b15), .val (.ref b176), .val (.int (0 : Int32))] [(.ref a), (.ref b176), (.ref b30)])) (fun X t q => XS.aloadN X.here C.hx rfl (hb C.hby d2_94) rfl rfl q) ?_
          refine Wk.st (g' := (mkF m 97 #[.val (.ref a), .val (.int (4 : Int32)), .val (.ref b2), .val (.ref b15), .val (.ref b176), .val (.int (0 : Int32))] [(.int (0 : Int32)), (.ref a), (.ref b176), (.ref b30)])) (fun X t q => XS.iload X.here C.hx rfl (hb C.hby d2_95) rfl q) ?_
          refine Wk.fLdI C FB0_0 (i := 0) (by decide) (by decide) (by decide) (v := (.int p0)) (by simp [up]) d2_97 ?_
          show Wk _ p l e _ s m _ below meth c n0 _ hB0 7 28 (mkF m 98 #[.val (.ref a), .val (.int (4 : Int32)), .val (.ref b2), .val (.ref b15), .val (.ref b176), .val (.int (0 : Int32))] [(.int p0), (.ref b176), (.ref b30)])
          refine Wk.st (g' := (mkF m 99 #[.val (.ref a), .val (.int (4 : Int32)), .val (.ref b2), .val (.ref b15), .val (.ref b176), .val (.int (0 : Int32))] [(.int p0), (.ref b176), (.int p0), (.ref b176), (.ref b30)])) (fun X t q => XT.dup2 X.here C.hx rfl (hb C.hby d2_98) rfl rfl rfl q) ?_
          refine Wk.fLdI C FB0_2 (by rw [hq] <;> decide) hb496 (by decide) (v := (.int (cn [] 0))) rfl d2_99 ?_
          show Wk _ p l e _ s m _ below meth c n0 _ hB0 7 28 (mkF m 100 #[.val (.ref a), .val (.int (4 : Int32)), .val (.ref b2), .val (.ref b15), .val (.ref b176), .val (.int (0 : Int32))] [(.int (cn [] 0)), (.int p0), (.ref b176), (.ref b30)])
          refine Wk.st (g' := (mkF m 101 #[.val (.ref a), .val (.int (4 : Int32)), .val (.ref b2), .val (.ref b15), .val (.ref b176), .val (.int (0 : Int32))] [(.int (cn [] 0)), (.int p0), (.ref b176), (.int (cn [] 0)), (.ref b30)])) (fun X t q => dupX2 X.here C.hx rfl (hb C.hby d2_100) rfl rfl rfl rfl q) ?_
          refine Wk.st (g' := (mkF m 102 #[.val (.ref a), .val (.int (4 : Int32)), .val (.ref b2), .val (.ref b15), .val (.ref b176), .val (.int (0 : Int32))] [(.int (1 : Int32)), (.int (cn [] 0)), (.int p0), (.ref b176), (.int (cn [] 0)), (.ref b30)])) (fun X t q => XS.iconst X.here C.hx rfl (hb C.hby d2_101) q) ?_
          refine Wk.st (g' := (mkF m 103 #[.val (.ref a), .val (.int (4 : Int32)), .val (.ref b2), .val (.ref b15), .val (.ref b176), .val (.int (0 : Int32))] [(.int ((cn [] 0) + (1 : Int32))), (.int p0), (.ref b176), (.int (cn [] 0)), (.ref b30)])) (fun X t q => XS.iadd X.here C.hx rfl (hb C.hby d2_102) rfl q) ?_
          refine Wk.fStI C FB0_2 (by rw [hq] <;> decide) hb496 (by decide) ge188 d2_103 ?_
          intro h497 W498 F499
          have F500 : Fa Z h497 a .int 4 (up (up (up (up (fun _ => (.int (0 : Int32))) 0 (.int p0)) 1 (.int p1)) 2 (.int p2)) 3 (.int p3)) := FB0_0.other W498 ne181
          have F501 : FaA Z h497 b15 .int "[I" 4 (up (up (up (up (fun _ => .null) 0 (.ref b30)) 1 (.ref b59)) 2 (.ref b93)) 3 (.ref b132)) := FB0_1.other W498 ne183
          have F502 : Fa Z h497 b30 .int (cn [p3, p2, p1, p0] 0).toNatClampNeg (fun t => (.int (gk [] 0 t))) := FB0_3.other W498 ne184
          have F503 : Fa Z h497 b59 .int (cn [p3, p2, p1, p0] 1).toNatClampNeg (fun t => (.int (gk [] 1 t))) := FB0_4.other W498 ne185
          have F504 : Fa Z h497 b93 .int (cn [p3, p2, p1, p0] 2).toNatClampNeg (fun t => (.int (gk [] 2 t))) := FB0_5.other W498 ne186
          have F505 : Fa Z h497 b132 .int (cn [p3, p2, p1, p0] 3).toNatClampNeg (fun t => (.int (gk [] 3 t))) := FB0_6.other W498 ne187
          have sz506 : n0 ≤ h497.size := Nat.le_trans sz_B0 (Nat.le_of_eq W498.size.symm)
          have sy507 : h0.size ≤ h497.size := Nat.le_trans sz0_B0 (Nat.le_of_eq W498.size.symm)
          have K508 := K_B0.wr W498 (Or.inr gz189)
          show Wk _ p l e _ s m _ below meth c n0 _ h497 7 28 (mkF m 104 #[.val (.ref a), .val (.int (4 : Int32)), .val (.ref b2), .val (.ref b15), .val (.ref b176), .val (.int (0 : Int32))] [(.int (cn [] 0)), (.ref b30)])
          refine Wk.st (g' := (mkF m 106 #[.val (.ref a), .val (.int (4 : Int32)), .val (.ref b2), .val (.ref b15), .val (.ref b176), .val (.int (0 : Int32))] [(.int (0 : Int32)), (.int (cn [] 0)), (.ref b30)])) (fun X t q => XS.iload X.here C.hx rfl (hb C.hby d2_104) rfl q) ?_
          refine Wk.fStI C F502 rfl (cn_nn _ _ (Nat.le_of_ble_eq_true rfl)) (cn_lt (m := [p3, p2, p1]) (p := p0) (l := []) (Nat.le_of_ble_eq_true rfl) (by rw [hq] <;> rfl)) ge38 d2_106 ?_
          intro h509 W510 F511
          have F512 : Fa Z h509 a .int 4 (up (up (up (up (fun _ => (.int (0 : Int32))) 0 (.int p0)) 1 (.int p1)) 2 (.int p2)) 3 (.int p3)) := F500.other W510 ne35
          have F513 : FaA Z h509 b15 .int "[I" 4 (up (up (up (up (fun _ => .null) 0 (.ref b30)) 1 (.ref b59)) 2 (.ref b93)) 3 (.ref b132)) := F501.other W510 ne37
          have F514 : Fa Z h509 b59 .int (cn [p3, p2, p1, p0] 1).toNatClampNeg (fun t => (.int (gk [] 1 t))) := F503.other W510 (Ne.symm ne67)
          have F515 : Fa Z h509 b93 .int (cn [p3, p2, p1, p0] 2).toNatClampNeg (fun t => (.int (gk [] 2 t))) := F504.other W510 (Ne.symm ne101)
          have F516 : Fa Z h509 b132 .int (cn [p3, p2, p1, p0] 3).toNatClampNeg (fun t => (.int (gk [] 3 t))) := F505.other W510 (Ne.symm ne140)
          have F517 : Fa Z h509 b176 .int 4 (up (fun j => (.int (cn [] j))) 0 (.int ((cn [] 0) + (1 : Int32)))) := F499.other W510 (Ne.symm ne184)
          have sz518 : n0 ≤ h509.size := Nat.le_trans sz506 (Nat.le_of_eq W510.size.symm)
          have sy519 : h0.size ≤ h509.size := Nat.le_trans sy507 (Nat.le_of_eq W510.size.symm)
          have K520 := K508.wr W510 (Or.inr gz39)
          show Wk _ p l e _ s m _ below meth c n0 _ h509 7 28 (mkF m 107 #[.val (.ref a), .val (.int (4 : Int32)), .val (.ref b2), .val (.ref b15), .val (.ref b176), .val (.int (0 : Int32))] [])
          refine Wk.st (g' := (mkF m 110 #[.val (.ref a), .val (.int (4 : Int32)), .val (.ref b2), .val (.ref b15), .val (.ref b176), .val (.int (1 : Int32))] [])) (fun X t q => XS.iinc X.here C.hx rfl (hb C.hby d2_107) rfl (l' := #[.val (.ref a), .val (.int (4 : Int32)), .val (.ref b2), .val (.ref b15), .val (.ref b176), .val (.int (1 : Int32))]) rfl q) ?_
          refine Wk.st (g' := (mkF m 73 #[.val (.ref a), .val (.int (4 : Int32)), .val (.ref b2), .val (.ref b15), .val (.ref b176), .val (.int (1 : Int32))] [])) (fun X t q => XS.goto X.here C.hx rfl (pc0 := 110) (pc' := 73) rfl (hb C.hby d2_110) (by decide) (by decide) q) ?_
          exact JB1 h509 sz518 sy519 K520 F512 F513 (F517.congr (fun j hj => up_cn (by rw [hq] <;> rfl) j)) (F511.congr (fun t ht => up_gk (by rw [hq] <;> rfl) rfl t)) (F514.congr (fun t ht => no_gk (by rw [hq] <;> decide))) (F515.congr (fun t ht => no_gk (by rw [hq] <;> decide))) (F516.congr (fun t ht => no_gk (by rw [hq] <;> decide)))
        · skip
          refine Wk.fLdA C FB0_1 (by rw [hq] <;> decide) hb496 (by decide) (v := (.ref b59)) (by simp [up]) d2_91 ?_
          show Wk _ p l e _ s m _ below meth c n0 _ hB0 7 28 (mkF m 92 #[.val (.ref a), .val (.int (4 : Int32)), .val (.ref b2), .val (.ref b15), .val (.ref b176), .val (.int (0 : Int32))] [(.ref b59)])
          refine Wk.st (g' := (mkF m 94 #[.val (.ref a), .val (.int (4 : Int32)), .val (.ref b2), .val (.ref b15), .val (.ref b176), .val (.int (0 : Int32))] [(.ref b176), (.ref b59)])) (fun X t q => XS.aload X.here C.hx rfl (hb C.hby d2_92) rfl rfl q) ?_
          refine Wk.st (g' := (mkF m 95 #[.val (.ref a), .val (.int (4 : Int32)), .val (.ref b2), .val (.ref b15), .val (.ref b176), .val (.int (0 : Int32))] [(.ref a), (.ref b176), (.ref b59)])) (fun X t q => XS.aloadN X.here C.hx rfl (hb C.hby d2_94) rfl rfl q) ?_
          refine Wk.st (g' := (mkF m 97 #[.val (.ref a), .val (.int (4 : Int32)), .val (.ref b2), .val (.ref b15), .val (.ref b176), .val (.int (0 : Int32))] [(.int (0 : Int32)), (.ref a), (.ref b176), (.ref b59)])) (fun X t q => XS.iload X.here C.hx rfl (hb C.hby d2_95) rfl q) ?_
          refine Wk.fLdI C FB0_0 (i := 0) (by decide) (by decide) (by decide) (v := (.int p0)) (by simp [up]) d2_97 ?_
          show Wk _ p l e _ s m _ below meth c n0 _ hB0 7 28 (mkF m 98 #[.val (.ref a), .val (.int (4 : Int32)), .val (.ref b2), .val (.ref b15), .val (.ref b176), .val (.int (0 : Int32))] [(.int p0), (.ref b176), (.ref b59)])
          refine Wk.st (g' := (mkF m 99 #[.val (.ref a), .val (.int (4 : Int32)), .val (.ref b2), .val (.ref b15), .val (.ref b176), .val (.int (0 : Int32))] [(.int p0), (.ref b176), (.int p0), (.ref b176), (.ref b59)])) (fun X t q => XT.dup2 X.here C.hx rfl (hb C.hby d2_98) rfl rfl rfl q) ?_
          refine Wk.fLdI C FB0_2 (by rw [hq] <;> decide) hb496 (by decide) (v := (.int (cn [] 1))) rfl d2_99 ?_
          show Wk _ p l e _ s m _ below meth c n0 _ hB0 7 28 (mkF m 100 #[.val (.ref a), .val (.int (4 : Int32)), .val (.ref b2), .val (.ref b15), .val (.ref b176), .val (.int (0 : Int32))] [(.int (cn [] 1)), (.int p0), (.ref b176), (.ref b59)])
          refine Wk.st (g' := (mkF m 101 #[.val (.ref a), .val (.int (4 : Int32)), .val (.ref b2), .val (.ref b15), .val (.ref b176), .val (.int (0 : Int32))] [(.int (cn [] 1)), (.int p0), (.ref b176), (.int (cn [] 1)), (.ref b59)])) (fun X t q => dupX2 X.here C.hx rfl (hb C.hby d2_100) rfl rfl rfl rfl q) ?_
          refine Wk.st (g' := (mkF m 102 #[.val (.ref a), .val (.int (4 : Int32)), .val (.ref b2), .val (.ref b15), .val (.ref b176), .val (.int (0 : Int32))] [(.int (1 : Int32)), (.int (cn [] 1)), (.int p0), (.ref b176), (.int (cn [] 1)), (.ref b59)])) (fun X t q => XS.iconst X.here C.hx rfl (hb C.hby d2_101) q) ?_
          refine Wk.st (g' := (mkF m 103 #[.val (.ref a), .val (.int (4 : Int32)), .val (.ref b2), .val (.ref b15), .val (.ref b176), .val (.int (0 : Int32))] [(.int ((cn [] 1) + (1 : Int32))), (.int p0), (.ref b176), (.int (cn [] 1)), (.ref b59)])) (fun X t q => XS.iadd X.here C.hx rfl (hb C.hby d2_102) rfl q) ?_
          refine Wk.fStI C FB0_2 (by rw [hq] <;> decide) hb496 (by decide) ge188 d2_103 ?_
          intro h521 W522 F523
          have F524 : Fa Z h521 a .int 4 (up (up (up (up (fun _ => (.int (0 : Int32))) 0 (.int p0)) 1 (.int p1)) 2 (.int p2)) 3 (.int p3)) := FB0_0.other W522 ne181
          have F525 : FaA Z h521 b15 .int "[I" 4 (up (up (up (up (fun _ => .null) 0 (.ref b30)) 1 (.ref b59)) 2 (.ref b93)) 3 (.ref b132)) := FB0_1.other W522 ne183
          have F526 : Fa Z h521 b30 .int (cn [p3, p2, p1, p0] 0).toNatClampNeg (fun t => (.int (gk [] 0 t))) := FB0_3.other W522 ne184
          have F527 : Fa Z h521 b59 .int (cn [p3, p2, p1, p0] 1).toNatClampNeg (fun t => (.int (gk [] 1 t))) := FB0_4.other W522 ne185
          have F528 : Fa Z h521 b93 .int (cn [p3, p2, p1, p0] 2).toNatClampNeg (fun t => (.int (gk [] 2 t))) := FB0_5.other W522 ne186
          have F529 : Fa Z h521 b132 .int (cn [p3, p2, p1, p0] 3).toNatClampNeg (fun t => (.int (gk [] 3 t))) := FB0_6.other W522 ne187
          have sz530 : n0 ≤ h521.size := Nat.le_trans sz_B0 (Nat.le_of_eq W522.size.symm)
          have sy531 : h0.size ≤ h521.size := Nat.le_trans sz0_B0 (Nat.le_of_eq W522.size.symm)
          have K532 := K_B0.wr W522 (Or.inr gz189)
          show Wk _ p l e _ s m _ below meth c n0 _ h521 7 28 (mkF m 104 #[.val (.ref a), .val (.int (4 : Int32)), .val (.ref b2), .val (.ref b15), .val (.ref b176), .val (.int (0 : Int32))] [(.int (cn [] 1)), (.ref b59)])
          refine Wk.st (g' := (mkF m 106 #[.val (.ref a), .val (.int (4 : Int32)), .val (.ref b2), .val (.ref b15), .val (.ref b176), .val (.int (0 : Int32))] [(.int (0 : Int32)), (.int (cn [] 1)), (.ref b59)])) (fun X t q => XS.iload X.here C.hx rfl (hb C.hby d2_104) rfl q) ?_
          refine Wk.fStI C F527 rfl (cn_nn _ _ (Nat.le_of_ble_eq_true rfl)) (cn_lt (m := [p3, p2, p1]) (p := p0) (l := []) (Nat.le_of_ble_eq_true rfl) (by rw [hq] <;> rfl)) ge68 d2_106 ?_
          intro h533 W534 F535
          have F536 : Fa Z h533 a .int 4 (up (up (up (up (fun _ => (.int (0 : Int32))) 0 (.int p0)) 1 (.int p1)) 2 (.int p2)) 3 (.int p3)) := F524.other W534 ne64
          have F537 : FaA Z h533 b15 .int "[I" 4 (up (up (up (up (fun _ => .null) 0 (.ref b30)) 1 (.ref b59)) 2 (.ref b93)) 3 (.ref b132)) := F525.other W534 ne66
          have F538 : Fa Z h533 b30 .int (cn [p3, p2, p1, p0] 0).toNatClampNeg (fun t => (.int (gk [] 0 t))) := F526.other W534 ne67
          have F539 : Fa Z h533 b93 .int (cn [p3, p2, p1, p0] 2).toNatClampNeg (fun t => (.int (gk [] 2 t))) := F528.other W534 (Ne.symm ne102)
          have F540 : Fa Z h533 b132 .int (cn [p3, p2, p1, p0] 3).toNatClampNeg (fun t => (.int (gk [] 3 t))) := F529.other W534 (Ne.symm ne141)
          have F541 : Fa Z h533 b176 .int 4 (up (fun j => (.int (cn [] j))) 1 (.int ((cn [] 1) + (1 : Int32)))) := F523.other W534 (Ne.symm ne185)
          have sz542 : n0 ≤ h533.size := Nat.le_trans sz530 (Nat.le_of_eq W534.size.symm)
          have sy543 : h0.size ≤ h533.size := Nat.le_trans sy531 (Nat.le_of_eq W534.size.symm)
          have K544 := K532.wr W534 (Or.inr gz69)
          show Wk _ p l e _ s m _ below meth c n0 _ h533 7 28 (mkF m 107 #[.val (.ref a), .val (.int (4 : Int32)), .val (.ref b2), .val (.ref b15), .val (.ref b176), .val (.int (0 : Int32))] [])
          refine Wk.st (g' := (mkF m 110 #[.val (.ref a), .val (.int (4 : Int32)), .val (.ref b2), .val (.ref b15), .val (.ref b176), .val (.int (1 : Int32))] [])) (fun X t q => XS.iinc X.here C.hx rfl (hb C.hby d2_107) rfl (l' := #[.val (.ref a), .val (.int (4 : Int32)), .val (.ref b2), .val (.ref b15), .val (.ref b176), .val (.int (1 : Int32))]) rfl q) ?_
          refine Wk.st (g' := (mkF m 73 #[.val (.ref a), .val (.int (4 : Int32)), .val (.ref b2), .val (.ref b15), .val (.ref b176), .val (.int (1 : Int32))] [])) (fun X t q => XS.goto X.here C.hx rfl (pc0 := 110) (pc' := 73) rfl (hb C.hby d2_110) (by decide) (by decide) q) ?_
          exact JB1 h533 sz542 sy543 K544 F536 F537 (F541.congr (fun j hj => up_cn (by rw [hq] <;> rfl) j)) (F538.congr (fun t ht => no_gk (by rw [hq] <;> decide))) (F535.congr (fun t ht => up_gk (by rw [hq] <;> rfl) rfl t)) (F539.congr (fun t ht => no_gk (by rw [hq] <;> decide))) (F540.congr (fun t ht => no_gk (by rw [hq] <;> decide)))
        · skip
          refine Wk.fLdA C FB0_1 (by rw [hq] <;> decide) hb496 (by decide) (v := (.ref b93)) (by simp [up]) d2_91 ?_
          show Wk _ p l e _ s m _ below meth c n0 _ hB0 7 28 (mkF m 92 #[.val (.ref a), .val (.int (4 : Int32)), .val (.ref b2), .val (.ref b15), .val (.ref b176), .val (.int (0 : Int32))] [(.ref b93)])
          refine Wk.st (g' := (mkF m 94 #[.val (.ref a), .val (.int (4 : Int32)), .val (.ref b2), .val (.ref b15), .val (.ref b176), .val (.int (0 : Int32))] [(.ref b176), (.ref b93)])) (fun X t q => XS.aload X.here C.hx rfl (hb C.hby d2_92) rfl rfl q) ?_
          refine Wk.st (g' := (mkF m 95 #[.val (.ref a), .val (.int (4 : Int32)), .val (.ref b2), .val (.ref b15), .val (.ref b176), .val (.int (0 : Int32))] [(.ref a), (.ref b176), (.ref b93)])) (fun X t q => XS.aloadN X.here C.hx rfl (hb C.hby d2_94) rfl rfl q) ?_
          refine Wk.st (g' := (mkF m 97 #[.val (.ref a), .val (.int (4 : Int32)), .val (.ref b2), .val (.ref b15), .val (.ref b176), .val (.int (0 : Int32))] [(.int (0 : Int32)), (.ref a), (.ref b176), (.ref b93)])) (fun X t q => XS.iload X.here C.hx rfl (hb C.hby d2_95) rfl q) ?_
          refine Wk.fLdI C FB0_0 (i := 0) (by decide) (by decide) (by decide) (v := (.int p0)) (by simp [up]) d2_97 ?_
          show Wk _ p l e _ s m _ below meth c n0 _ hB0 7 28 (mkF m 98 #[.val (.ref a), .val (.int (4 : Int32)), .val (.ref b2), .val (.ref b15), .val (.ref b176), .val (.int (0 : Int32))] [(.int p0), (.ref b176), (.ref b93)])
          refine Wk.st (g' := (mkF m 99 #[.val (.ref a), .val (.int (4 : Int32)), .val (.ref b2), .val (.ref b15), .val (.ref b176), .val (.int (0 : Int32))] [(.int p0), (.ref b176), (.int p0), (.ref b176), (.ref b93)])) (fun X t q => XT.dup2 X.here C.hx rfl (hb C.hby d2_98) rfl rfl rfl q) ?_
          refine Wk.fLdI C FB0_2 (by rw [hq] <;> decide) hb496 (by decide) (v := (.int (cn [] 2))) rfl d2_99 ?_
          show Wk _ p l e _ s m _ below meth c n0 _ hB0 7 28 (mkF m 100 #[.val (.ref a), .val (.int (4 : Int32)), .val (.ref b2), .val (.ref b15), .val (.ref b176), .val (.int (0 : Int32))] [(.int (cn [] 2)), (.int p0), (.ref b176), (.ref b93)])
          refine Wk.st (g' := (mkF m 101 #[.val (.ref a), .val (.int (4 : Int32)), .val (.ref b2), .val (.ref b15), .val (.ref b176), .val (.int (0 : Int32))] [(.int (cn [] 2)), (.int p0), (.ref b176), (.int (cn [] 2)), (.ref b93)])) (fun X t q => dupX2 X.here C.hx rfl (hb C.hby d2_100) rfl rfl rfl rfl q) ?_
          refine Wk.st (g' := (mkF m 102 #[.val (.ref a), .val (.int (4 : Int32)), .val (.ref b2), .val (.ref b15), .val (.ref b176), .val (.int (0 : Int32))] [(.int (1 : Int32)), (.int (cn [] 2)), (.int p0), (.ref b176), (.int (cn [] 2)), (.ref b93)])) (fun X t q => XS.iconst X.here C.hx rfl (hb C.hby d2_101) q) ?_
          refine Wk.st (g' := (mkF m 103 #[.val (.ref a), .val (.int (4 : Int32)), .val (.ref b2), .val (.ref b15), .val (.ref b176), .val (.int (0 : Int32))] [(.int ((cn [] 2) + (1 : Int32))), (.int p0), (.ref b176), (.int (cn [] 2)), (.ref b93)])) (fun X t q => XS.iadd X.here C.hx rfl (hb C.hby d2_102) rfl q) ?_
          refine Wk.fStI C FB0_2 (by rw [hq] <;> decide) hb496 (by decide) ge188 d2_103 ?_
          intro h545 W546 F547
          have F548 : Fa Z h545 a .int 4 (up (up (up (up (fun _ => (.int (0 : Int32))) 0 (.int p0)) 1 (.int p1)) 2 (.int p2)) 3 (.int p3)) := FB0_0.other W546 ne181
          have F549 : FaA Z h545 b15 .int "[I" 4 (up (up (up (up (fun _ => .null) 0 (.ref b30)) 1 (.ref b59)) 2 (.ref b93)) 3 (.ref b132)) := FB0_1.other W546 ne183
          have F550 : Fa Z h545 b30 .int (cn [p3, p2, p1, p0] 0).toNatClampNeg (fun t => (.int (gk [] 0 t))) := FB0_3.other W546 ne184
          have F551 : Fa Z h545 b59 .int (cn [p3, p2, p1, p0] 1).toNatClampNeg (fun t => (.int (gk [] 1 t))) := FB0_4.other W546 ne185
          have F552 : Fa Z h545 b93 .int (cn [p3, p2, p1, p0] 2).toNatClampNeg (fun t => (.int (gk [] 2 t))) := FB0_5.other W546 ne186
          have F553 : Fa Z h545 b132 .int (cn [p3, p2, p1, p0] 3).toNatClampNeg (fun t => (.int (gk [] 3 t))) := FB0_6.other W546 ne187
          have sz554 : n0 ≤ h545.size := Nat.le_trans sz_B0 (Nat.le_of_eq W546.size.symm)
          have sy555 : h0.size ≤ h545.size := Nat.le_trans sz0_B0 (Nat.le_of_eq W546.size.symm)
          have K556 := K_B0.wr W546 (Or.inr gz189)
          show Wk _ p l e _ s m _ below meth c n0 _ h545 7 28 (mkF m 104 #[.val (.ref a), .val (.int (4 : Int32)), .val (.ref b2), .val (.ref b15), .val (.ref b176), .val (.int (0 : Int32))] [(.int (cn [] 2)), (.ref b93)])
          refine Wk.st (g' := (mkF m 106 #[.val (.ref a), .val (.int (4 : Int32)), .val (.ref b2), .val (.ref b15), .val (.ref b176), .val (.int (0 : Int32))] [(.int (0 : Int32)), (.int (cn [] 2)), (.ref b93)])) (fun X t q => XS.iload X.here C.hx rfl (hb C.hby d2_104) rfl q) ?_
          refine Wk.fStI C F552 rfl (cn_nn _ _ (Nat.le_of_ble_eq_true rfl)) (cn_lt (m := [p3, p2, p1]) (p := p0) (l := []) (Nat.le_of_ble_eq_true rfl) (by rw [hq] <;> rfl)) ge103 d2_106 ?_
          intro h557 W558 F559
          have F560 : Fa Z h557 a .int 4 (up (up (up (up (fun _ => (.int (0 : Int32))) 0 (.int p0)) 1 (.int p1)) 2 (.int p2)) 3 (.int p3)) := F548.other W558 ne98
          have F561 : FaA Z h557 b15 .int "[I" 4 (up (up (up (up (fun _ => .null) 0 (.ref b30)) 1 (.ref b59)) 2 (.ref b93)) 3 (.ref b132)) := F549.other W558 ne100
          have F562 : Fa Z h557 b30 .int (cn [p3, p2, p1, p0] 0).toNatClampNeg (fun t => (.int (gk [] 0 t))) := F550.other W558 ne101
          have F563 : Fa Z h557 b59 .int (cn [p3, p2, p1, p0] 1).toNatClampNeg (fun t => (.int (gk [] 1 t))) := F551.other W558 ne102
          have F564 : Fa Z h557 b132 .int (cn [p3, p2, p1, p0] 3).toNatClampNeg (fun t => (.int (gk [] 3 t))) := F553.other W558 (Ne.symm ne142)
          have F565 : Fa Z h557 b176 .int 4 (up (fun j => (.int (cn [] j))) 2 (.int ((cn [] 2) + (1 : Int32)))) := F547.other W558 (Ne.symm ne186)
          have sz566 : n0 ≤ h557.size := Nat.le_trans sz554 (Nat.le_of_eq W558.size.symm)
          have sy567 : h0.size ≤ h557.size := Nat.le_trans sy555 (Nat.le_of_eq W558.size.symm)
          have K568 := K556.wr W558 (Or.inr gz104)
          show Wk _ p l e _ s m _ below meth c n0 _ h557 7 28 (mkF m 107 #[.val (.ref a), .val (.int (4 : Int32)), .val (.ref b2), .val (.ref b15), .val (.ref b176), .val (.int (0 : Int32))] [])
          refine Wk.st (g' := (mkF m 110 #[.val (.ref a), .val (.int (4 : Int32)), .val (.ref b2), .val (.ref b15), .val (.ref b176), .val (.int (1 : Int32))] [])) (fun X t q => XS.iinc X.here C.hx rfl (hb C.hby d2_107) rfl (l' := #[.val (.ref a), .val (.int (4 : Int32)), .val (.ref b2), .val (.ref b15), .val (.ref b176), .val (.int (1 : Int32))]) rfl q) ?_
          refine Wk.st (g' := (mkF m 73 #[.val (.ref a), .val (.int (4 : Int32)), .val (.ref b2), .val (.ref b15), .val (.ref b176), .val (.int (1 : Int32))] [])) (fun X t q => XS.goto X.here C.hx rfl (pc0 := 110) (pc' := 73) rfl (hb C.hby d2_110) (by decide) (by decide) q) ?_
          exact JB1 h557 sz566 sy567 K568 F560 F561 (F565.congr (fun j hj => up_cn (by rw [hq] <;> rfl) j)) (F562.congr (fun t ht => no_gk (by rw [hq] <;> decide))) (F563.congr (fun t ht => no_gk (by rw [hq] <;> decide))) (F559.congr (fun t ht => up_gk (by rw [hq] <;> rfl) rfl t)) (F564.congr (fun t ht => no_gk (by rw [hq] <;> decide)))
        · skip
          refine Wk.fLdA C FB0_1 (by rw [hq] <;> decide) hb496 (by decide) (v := (.ref b132)) (by simp [up]) d2_91 ?_
          show Wk _ p l e _ s m _ below meth c n0 _ hB0 7 28 (mkF m 92 #[.val (.ref a), .val (.int (4 : Int32)), .val (.ref b2), .val (.ref b15), .val (.ref b176), .val (.int (0 : Int32))] [(.ref b132)])
          refine Wk.st (g' := (mkF m 94 #[.val (.ref a), .val (.int (4 : Int32)), .val (.ref b2), .val (.ref b15), .val (.ref b176), .val (.int (0 : Int32))] [(.ref b176), (.ref b132)])) (fun X t q => XS.aload X.here C.hx rfl (hb C.hby d2_92) rfl rfl q) ?_
          refine Wk.st (g' := (mkF m 95 #[.val (.ref a), .val (.int (4 : Int32)), .val (.ref b2), .val (.ref b15), .val (.ref b176), .val (.int (0 : Int32))] [(.ref a), (.ref b176), (.ref b132)])) (fun X t q => XS.aloadN X.here C.hx rfl (hb C.hby d2_94) rfl rfl q) ?_
          refine Wk.st (g' := (mkF m 97 #[.val (.ref a), .val (.int (4 : Int32)), .val (.ref b2), .val (.ref b15), .val (.ref b176), .val (.int (0 : Int32))] [(.int (0 : Int32)), (.ref a), (.ref b176), (.ref b132)])) (fun X t q => XS.iload X.here C.hx rfl (hb C.hby d2_95) rfl q) ?_
          refine Wk.fLdI C FB0_0 (i := 0) (by decide) (by decide) (by decide) (v := (.int p0)) (by simp [up]) d2_97 ?_
          show Wk _ p l e _ s m _ below meth c n0 _ hB0 7 28 (mkF m 98 #[.val (.ref a), .val (.int (4 : Int32)), .val (.ref b2), .val (.ref b15), .val (.ref b176), .val (.int (0 : Int32))] [(.int p0), (.ref b176), (.ref b132)])
          refine Wk.st (g' := (mkF m 99 #[.val (.ref a), .val (.int (4 : Int32)), .val (.ref b2), .val (.ref b15), .val (.ref b176), .val (.int (0 : Int32))] [(.int p0), (.ref b176), (.int p0), (.ref b176), (.ref b132)])) (fun X t q => XT.dup2 X.here C.hx rfl (hb C.hby d2_98) rfl rfl rfl q) ?_
          refine Wk.fLdI C FB0_2 (by rw [hq] <;> decide) hb496 (by decide) (v := (.int (cn [] 3))) rfl d2_99 ?_
          show Wk _ p l e _ s m _ below meth c n0 _ hB0 7 28 (mkF m 100 #[.val (.ref a), .val (.int (4 : Int32)), .val (.ref b2), .val (.ref b15), .val (.ref b176), .val (.int (0 : Int32))] [(.int (cn [] 3)), (.int p0), (.ref b176), (.ref b132)])
          refine Wk.st (g' := (mkF m 101 #[.val (.ref a), .val (.int (4 : Int32)), .val (.ref b2), .val (.ref b15), .val (.ref b176), .val (.int (0 : Int32))] [(.int (cn [] 3)), (.int p0), (.ref b176), (.int (cn [] 3)), (.ref b132)])) (fun X t q => dupX2 X.here C.hx rfl (hb C.hby d2_100) rfl rfl rfl rfl q) ?_
          refine Wk.st (g' := (mkF m 102 #[.val (.ref a), .val (.int (4 : Int32)), .val (.ref b2), .val (.ref b15), .val (.ref b176), .val (.int (0 : Int32))] [(.int (1 : Int32)), (.int (cn [] 3)), (.int p0), (.ref b176), (.int (cn [] 3)), (.ref b132)])) (fun X t q => XS.iconst X.here C.hx rfl (hb C.hby d2_101) q) ?_
          refine Wk.st (g' := (mkF m 103 #[.val (.ref a), .val (.int (4 : Int32)), .val (.ref b2), .val (.ref b15), .val (.ref b176), .val (.int (0 : Int32))] [(.int ((cn [] 3) + (1 : Int32))), (.int p0), (.ref b176), (.int (cn [] 3)), (.ref b132)])) (fun X t q => XS.iadd X.here C.hx rfl (hb C.hby d2_102) rfl q) ?_
          refine Wk.fStI C FB0_2 (by rw [hq] <;> decide) hb496 (by decide) ge188 d2_103 ?_
          intro h569 W570 F571
          have F572 : Fa Z h569 a .int 4 (up (up (up (up (fun _ => (.int (0 : Int32))) 0 (.int p0)) 1 (.int p1)) 2 (.int p2)) 3 (.int p3)) := FB0_0.other W570 ne181
          have F573 : FaA Z h569 b15 .int "[I" 4 (up (up (up (up (fun _ => .null) 0 (.ref b30)) 1 (.ref b59)) 2 (.ref b93)) 3 (.ref b132)) := FB0_1.other W570 ne183
          have F574 : Fa Z h569 b30 .int (cn [p3, p2, p1, p0] 0).toNatClampNeg (fun t => (.int (gk [] 0 t))) := FB0_3.other W570 ne184
          have F575 : Fa Z h569 b59 .int (cn [p3, p2, p1, p0] 1).toNatClampNeg (fun t => (.int (gk [] 1 t))) := FB0_4.other W570 ne185
          have F576 : Fa Z h569 b93 .int (cn [p3, p2, p1, p0] 2).toNatClampNeg (fun t => (.int (gk [] 2 t))) := FB0_5.other W570 ne186
          have F577 : Fa Z h569 b132 .int (cn [p3, p2, p1, p0] 3).toNatClampNeg (fun t => (.int (gk [] 3 t))) := FB0_6.other W570 ne187
          have sz578 : n0 ≤ h569.size := Nat.le_trans sz_B0 (Nat.le_of_eq W570.size.symm)
          have sy579 : h0.size ≤ h569.size := Nat.le_trans sz0_B0 (Nat.le_of_eq W570.size.symm)
          have K580 := K_B0.wr W570 (Or.inr gz189)
          show Wk _ p l e _ s m _ below meth c n0 _ h569 7 28 (mkF m 104 #[.val (.ref a), .val (.int (4 : Int32)), .val (.ref b2), .val (.ref b15), .val (.ref b176), .val (.int (0 : Int32))] [(.int (cn [] 3)), (.ref b132)])
          refine Wk.st (g' := (mkF m 106 #[.val (.ref a), .val (.int (4 : Int32)), .val (.ref b2), .val (.ref b15), .val (.ref b176), .val (.int (0 : Int32))] [(.int (0 : Int32)), (.int (cn [] 3)), (.ref b132)])) (fun X t q => XS.iload X.here C.hx rfl (hb C.hby d2_104) rfl q) ?_
          refine Wk.fStI C F577 rfl (cn_nn _ _ (Nat.le_of_ble_eq_true rfl)) (cn_lt (m := [p3, p2, p1]) (p := p0) (l := []) (Nat.le_of_ble_eq_true rfl) (by rw [hq] <;> rfl)) ge143 d2_106 ?_
          intro h581 W582 F583
          have F584 : Fa Z h581 a .int 4 (up (up (up (up (fun _ => (.int (0 : Int32))) 0 (.int p0)) 1 (.int p1)) 2 (.int p2)) 3 (.int p3)) := F572.other W582 ne137
          have F585 : FaA Z h581 b15 .int "[I" 4 (up (up (up (up (fun _ => .null) 0 (.ref b30)) 1 (.ref b59)) 2 (.ref b93)) 3 (.ref b132)) := F573.other W582 ne139
          have F586 : Fa Z h581 b30 .int (cn [p3, p2, p1, p0] 0).toNatClampNeg (fun t => (.int (gk [] 0 t))) := F574.other W582 ne140
          have F587 : Fa Z h581 b59 .int (cn [p3, p2, p1, p0] 1).toNatClampNeg (fun t => (.int (gk [] 1 t))) := F575.other W582 ne141
          have F588 : Fa Z h581 b93 .int (cn [p3, p2, p1, p0] 2).toNatClampNeg (fun t => (.int (gk [] 2 t))) := F576.other W582 ne142
          have F589 : Fa Z h581 b176 .int 4 (up (fun j => (.int (cn [] j))) 3 (.int ((cn [] 3) + (1 : Int32)))) := F571.other W582 (Ne.symm ne187)
          have sz590 : n0 ≤ h581.size := Nat.le_trans sz578 (Nat.le_of_eq W582.size.symm)
          have sy591 : h0.size ≤ h581.size := Nat.le_trans sy579 (Nat.le_of_eq W582.size.symm)
          have K592 := K580.wr W582 (Or.inr gz144)
          show Wk _ p l e _ s m _ below meth c n0 _ h581 7 28 (mkF m 107 #[.val (.ref a), .val (.int (4 : Int32)), .val (.ref b2), .val (.ref b15), .val (.ref b176), .val (.int (0 : Int32))] [])
          refine Wk.st (g' := (mkF m 110 #[.val (.ref a), .val (.int (4 : Int32)), .val (.ref b2), .val (.ref b15), .val (.ref b176), .val (.int (1 : Int32))] [])) (fun X t q => XS.iinc X.here C.hx rfl (hb C.hby d2_107) rfl (l' := #[.val (.ref a), .val (.int (4 : Int32)), .val (.ref b2), .val (.ref b15), .val (.ref b176), .val (.int (1 : Int32))]) rfl q) ?_
          refine Wk.st (g' := (mkF m 73 #[.val (.ref a), .val (.int (4 : Int32)), .val (.ref b2), .val (.ref b15), .val (.ref b176), .val (.int (1 : Int32))] [])) (fun X t q => XS.goto X.here C.hx rfl (pc0 := 110) (pc' := 73) rfl (hb C.hby d2_110) (by decide) (by decide) q) ?_
          exact JB1 h581 sz590 sy591 K592 F584 F585 (F589.congr (fun j hj => up_cn (by rw [hq] <;> rfl) j)) (F586.congr (fun t ht => no_gk (by rw [hq] <;> decide))) (F587.congr (fun t ht => no_gk (by rw [hq] <;> decide))) (F588.congr (fun t ht => no_gk (by rw [hq] <;> decide))) (F583.congr (fun t ht => up_gk (by rw [hq] <;> rfl) rfl t))
    exact JB0 h175 sz202 sy203 K204 F190 F201 (F180.congr (fun j hj => rfl)) (F194.congr (fun j hj => rfl)) (F196.congr (fun j hj => rfl)) (F198.congr (fun j hj => rfl)) (F200.congr (fun j hj => rfl))
  have JA3 : ∀ (hA3 : Heap), n0 ≤ hA3.size → h0.size ≤ hA3.size → Keep h0 hA3 [] → Fa Z hA3 a .int 4 (up (up (up (up (fun _ => (.int (0 : Int32))) 0 (.int p0)) 1 (.int p1)) 2 (.int p2)) 3 (.int p3)) → Fa Z hA3 b2 .int 4 (fun j => (.int (cn [p2, p1, p0] j))) → Wk false p l e ({ frames := 0, cells := 8, slots := 32, locals := 0 } : Room) s m #[(.ref a)] below meth c n0 (fun v h => ∃ ch c0 c1 c2 c3 : Addr, v = some (.ref ch) ∧ Keep h0 h [] ∧ h0.size ≤ ch ∧ h0.size ≤ c0 ∧ h0.size ≤ c1 ∧ h0.size ≤ c2 ∧ h0.size ≤ c3 ∧ FaA Z h ch .int "[I" 4 (up (up (up (up (fun _ => .null) 0 (.ref c0)) 1 (.ref c1)) 2 (.ref c2)) 3 (.ref c3)) ∧ Fa Z h c0 .int (cn [p3, p2, p1, p0] 0).toNatClampNeg (fun t => (.int (gk [p3, p2, p1, p0] 0 t))) ∧ Fa Z h c1 .int (cn [p3, p2, p1, p0] 1).toNatClampNeg (fun t => (.int (gk [p3, p2, p1, p0] 1 t))) ∧ Fa Z h c2 .int (cn [p3, p2, p1, p0] 2).toNatClampNeg (fun t => (.int (gk [p3, p2, p1, p0] 2 t))) ∧ Fa Z h c3 .int (cn [p3, p2, p1, p0] 3).toNatClampNeg (fun t => (.int (gk [p3, p2, p1, p0] 3 t)))) hA3 1 4 (mkF m 9 #[.val (.ref a), .val (.int (4 : Int32)), .val (.ref b2), .val (.int (3 : Int32)), .unset, .unset] []) := by
    intro hA3 sz_A3 sz0_A3 K_A3 FA3_0 FA3_1
    refine Wk.st (g' := (mkF m 10 #[.val (.ref a), .val (.int (4 : Int32)), .val (.ref b2), .val (.int (3 : Int32)), .unset, .unset] [(.int (3 : Int32))])) (fun X t q => XS.iloadN X.here C.hx rfl (hb C.hby d2_9) rfl q) ?_
    refine Wk.st (g' := (mkF m 11 #[.val (.ref a), .val (.int (4 : Int32)), .val (.ref b2), .val (.int (3 : Int32)), .unset, .unset] [(.int (4 : Int32)), (.int (3 : Int32))])) (fun X t q => XS.iloadN X.here C.hx rfl (hb C.hby d2_10) rfl q) ?_
    refine Wk.st (g' := (mkF m 14 #[.val (.ref a), .val (.int (4 : Int32)), .val (.ref b2), .val (.int (3 : Int32)), .unset, .unset] [])) (fun X t q => XS.icmpNo X.here C.hx rfl (hb C.hby d2_11) rfl (XT.ii_ge_f (by decide)) q) ?_
    refine Wk.st (g' := (mkF m 15 #[.val (.ref a), .val (.int (4 : Int32)), .val (.ref b2), .val (.int (3 : Int32)), .unset, .unset] [(.ref a)])) (fun X t q => XS.aloadN X.here C.hx rfl (hb C.hby d2_14) rfl rfl q) ?_
    refine Wk.st (g' := (mkF m 16 #[.val (.ref a), .val (.int (4 : Int32)), .val (.ref b2), .val (.int (3 : Int32)), .unset, .unset] [(.int (3 : Int32)), (.ref a)])) (fun X t q => XS.iloadN X.here C.hx rfl (hb C.hby d2_15) rfl q) ?_
    refine Wk.fLdI C FA3_0 (i := 3) (by decide) (by decide) (by decide) (v := (.int p3)) (by simp [up]) d2_16 ?_
    show Wk _ p l e _ s m _ below meth c n0 _ hA3 1 4 (mkF m 17 #[.val (.ref a), .val (.int (4 : Int32)), .val (.ref b2), .val (.int (3 : Int32)), .unset, .unset] [(.int p3)])
    by_cases hb593 : p3 < (0 : Int32)
    · skip
      refine Wk.st (g' := (mkF m 29 #[.val (.ref a), .val (.int (4 : Int32)), .val (.ref b2), .val (.int (3 : Int32)), .unset, .unset] [])) (fun X t q => XS.ifYes X.here C.hx rfl (pc0 := 17) (pc' := 29) rfl (hb C.hby d2_17) rfl (XT.i0_lt_t hb593) (by decide) (by decide) q) ?_
      refine Wk.st (g' := (mkF m 32 #[.val (.ref a), .val (.int (4 : Int32)), .val (.ref b2), .val (.int (4 : Int32)), .unset, .unset] [])) (fun X t q => XS.iinc X.here C.hx rfl (hb C.hby d2_29) rfl (l' := #[.val (.ref a), .val (.int (4 : Int32)), .val (.ref b2), .val (.int (4 : Int32)), .unset, .unset]) rfl q) ?_
      refine Wk.st (g' := (mkF m 9 #[.val (.ref a), .val (.int (4 : Int32)), .val (.ref b2), .val (.int (4 : Int32)), .unset, .unset] [])) (fun X t q => XS.goto X.here C.hx rfl (pc0 := 32) (pc' := 9) rfl (hb C.hby d2_32) (by decide) (by decide) q) ?_
      exact JA4 hA3 sz_A3 sz0_A3 K_A3 FA3_0 (FA3_1.congr (fun j hj => no_cn (neg_ne hb593 j)))
    · skip
      refine Wk.st (g' := (mkF m 20 #[.val (.ref a), .val (.int (4 : Int32)), .val (.ref b2), .val (.int (3 : Int32)), .unset, .unset] [])) (fun X t q => XS.ifNo X.here C.hx rfl (hb C.hby d2_17) rfl (XT.i0_lt_f hb593) q) ?_
      refine Wk.st (g' := (mkF m 21 #[.val (.ref a), .val (.int (4 : Int32)), .val (.ref b2), .val (.int (3 : Int32)), .unset, .unset] [(.ref b2)])) (fun X t q => XS.aloadN X.here C.hx rfl (hb C.hby d2_20) rfl rfl q) ?_
      refine Wk.st (g' := (mkF m 22 #[.val (.ref a), .val (.int (4 : Int32)), .val (.ref b2), .val (.int (3 : Int32)), .unset, .unset] [(.ref a), (.ref b2)])) (fun X t q => XS.aloadN X.here C.hx rfl (hb C.hby d2_21) rfl rfl q) ?_
      refine Wk.st (g' := (mkF m 23 #[.val (.ref a), .val (.int (4 : Int32)), .val (.ref b2), .val (.int (3 : Int32)), .unset, .unset] [(.int (3 : Int32)), (.ref a), (.ref b2)])) (fun X t q => XS.iloadN X.here C.hx rfl (hb C.hby d2_22) rfl q) ?_
      refine Wk.fLdI C FA3_0 (i := 3) (by decide) (by decide) (by decide) (v := (.int p3)) (by simp [up]) d2_23 ?_
      show Wk _ p l e _ s m _ below meth c n0 _ hA3 1 4 (mkF m 24 #[.val (.ref a), .val (.int (4 : Int32)), .val (.ref b2), .val (.int (3 : Int32)), .unset, .unset] [(.int p3), (.ref b2)])
      refine Wk.st (g' := (mkF m 25 #[.val (.ref a), .val (.int (4 : Int32)), .val (.ref b2), .val (.int (3 : Int32)), .unset, .unset] [(.int p3), (.ref b2), (.int p3), (.ref b2)])) (fun X t q => XT.dup2 X.here C.hx rfl (hb C.hby d2_24) rfl rfl rfl q) ?_
      refine Wk.fLdI C FA3_1 rfl hb593 (nat4 r3) (v := (.int (cn [p2, p1, p0] p3.toNatClampNeg))) rfl d2_25 ?_
      show Wk _ p l e _ s m _ below meth c n0 _ hA3 1 4 (mkF m 26 #[.val (.ref a), .val (.int (4 : Int32)), .val (.ref b2), .val (.int (3 : Int32)), .unset, .unset] [(.int (cn [p2, p1, p0] p3.toNatClampNeg)), (.int p3), (.ref b2)])
      refine Wk.st (g' := (mkF m 27 #[.val (.ref a), .val (.int (4 : Int32)), .val (.ref b2), .val (.int (3 : Int32)), .unset, .unset] [(.int (1 : Int32)), (.int (cn [p2, p1, p0] p3.toNatClampNeg)), (.int p3), (.ref b2)])) (fun X t q => XS.iconst X.here C.hx rfl (hb C.hby d2_26) q) ?_
      refine Wk.st (g' := (mkF m 28 #[.val (.ref a), .val (.int (4 : Int32)), .val (.ref b2), .val (.int (3 : Int32)), .unset, .unset] [(.int ((cn [p2, p1, p0] p3.toNatClampNeg) + (1 : Int32))), (.int p3), (.ref b2)])) (fun X t q => XS.iadd X.here C.hx rfl (hb C.hby d2_27) rfl q) ?_
      refine Wk.fStI C FA3_1 rfl hb593 (nat4 r3) ge8 d2_28 ?_
      intro h594 W595 F596
      have F597 : Fa Z h594 a .int 4 (up (up (up (up (fun _ => (.int (0 : Int32))) 0 (.int p0)) 1 (.int p1)) 2 (.int p2)) 3 (.int p3)) := FA3_0.other W595 ne7
      have sz598 : n0 ≤ h594.size := Nat.le_trans sz_A3 (Nat.le_of_eq W595.size.symm)
      have sy599 : h0.size ≤ h594.size := Nat.le_trans sz0_A3 (Nat.le_of_eq W595.size.symm)
      have K600 := K_A3.wr W595 (Or.inr gz9)
      show Wk _ p l e _ s m _ below meth c n0 _ h594 1 4 (mkF m 29 #[.val (.ref a), .val (.int (4 : Int32)), .val (.ref b2), .val (.int (3 : Int32)), .unset, .unset] [])
      refine Wk.st (g' := (mkF m 32 #[.val (.ref a), .val (.int (4 : Int32)), .val (.ref b2), .val (.int (4 : Int32)), .unset, .unset] [])) (fun X t q => XS.iinc X.here C.hx rfl (hb C.hby d2_29) rfl (l' := #[.val (.ref a), .val (.int (4 : Int32)), .val (.ref b2), .val (.int (4 : Int32)), .unset, .unset]) rfl q) ?_
      refine Wk.st (g' := (mkF m 9 #[.val (.ref a), .val (.int (4 : Int32)), .val (.ref b2), .val (.int (4 : Int32)), .unset, .unset] [])) (fun X t q => XS.goto X.here C.hx rfl (pc0 := 32) (pc' := 9) rfl (hb C.hby d2_32) (by decide) (by decide) q) ?_
      exact JA4 h594 sz598 sy599 K600 F597 (F596.congr (fun j hj => up_cn (pos_nat hb593) j))
  have JA2 : ∀ (hA2 : Heap), n0 ≤ hA2.size → h0.size ≤ hA2.size → Keep h0 hA2 [] → Fa Z hA2 a .int 4 (up (up (up (up (fun _ => (.int (0 : Int32))) 0 (.int p0)) 1 (.int p1)) 2 (.int p2)) 3 (.int p3)) → Fa Z hA2 b2 .int 4 (fun j => (.int (cn [p1, p0] j))) → Wk false p l e ({ frames := 0, cells := 8, slots := 32, locals := 0 } : Room) s m #[(.ref a)] below meth c n0 (fun v h => ∃ ch c0 c1 c2 c3 : Addr, v = some (.ref ch) ∧ Keep h0 h [] ∧ h0.size ≤ ch ∧ h0.size ≤ c0 ∧ h0.size ≤ c1 ∧ h0.size ≤ c2 ∧ h0.size ≤ c3 ∧ FaA Z h ch .int "[I" 4 (up (up (up (up (fun _ => .null) 0 (.ref c0)) 1 (.ref c1)) 2 (.ref c2)) 3 (.ref c3)) ∧ Fa Z h c0 .int (cn [p3, p2, p1, p0] 0).toNatClampNeg (fun t => (.int (gk [p3, p2, p1, p0] 0 t))) ∧ Fa Z h c1 .int (cn [p3, p2, p1, p0] 1).toNatClampNeg (fun t => (.int (gk [p3, p2, p1, p0] 1 t))) ∧ Fa Z h c2 .int (cn [p3, p2, p1, p0] 2).toNatClampNeg (fun t => (.int (gk [p3, p2, p1, p0] 2 t))) ∧ Fa Z h c3 .int (cn [p3, p2, p1, p0] 3).toNatClampNeg (fun t => (.int (gk [p3, p2, p1, p0] 3 t)))) hA2 1 4 (mkF m 9 #[.val (.ref a), .val (.int (4 : Int32)), .val (.ref b2), .val (.int (2 : Int32)), .unset, .unset] []) := by
    intro hA2 sz_A2 sz0_A2 K_A2 FA2_0 FA2_1
    refine Wk.st (g' := (mkF m 10 #[.val (.ref a), .val (.int (4 : Int32)), .val (.ref b2), .val (.int (2 : Int32)), .unset, .unset] [(.int (2 : Int32))])) (fun X t q => XS.iloadN X.here C.hx rfl (hb C.hby d2_9) rfl q) ?_
    refine Wk.st (g' := (mkF m 11 #[.val (.ref a), .val (.int (4 : Int32)), .val (.ref b2), .val (.int (2 : Int32)), .unset, .unset] [(.int (4 : Int32)), (.int (2 : Int32))])) (fun X t q => XS.iloadN X.here C.hx rfl (hb C.hby d2_10) rfl q) ?_
    refine Wk.st (g' := (mkF m 14 #[.val (.ref a), .val (.int (4 : Int32)), .val (.ref b2), .val (.int (2 : Int32)), .unset, .unset] [])) (fun X t q => XS.icmpNo X.here C.hx rfl (hb C.hby d2_11) rfl (XT.ii_ge_f (by decide)) q) ?_
    refine Wk.st (g' := (mkF m 15 #[.val (.ref a), .val (.int (4 : Int32)), .val (.ref b2), .val (.int (2 : Int32)), .unset, .unset] [(.ref a)])) (fun X t q => XS.aloadN X.here C.hx rfl (hb C.hby d2_14) rfl rfl q) ?_
    refine Wk.st (g' := (mkF m 16 #[.val (.ref a), .val (.int (4 : Int32)), .val (.ref b2), .val (.int (2 : Int32)), .unset, .unset] [(.int (2 : Int32)), (.ref a)])) (fun X t q => XS.iloadN X.here C.hx rfl (hb C.hby d2_15) rfl q) ?_
    refine Wk.fLdI C FA2_0 (i := 2) (by decide) (by decide) (by decide) (v := (.int p2)) (by simp [up]) d2_16 ?_
    show Wk _ p l e _ s m _ below meth c n0 _ hA2 1 4 (mkF m 17 #[.val (.ref a), .val (.int (4 : Int32)), .val (.ref b2), .val (.int (2 : Int32)), .unset, .unset] [(.int p2)])
    by_cases hb601 : p2 < (0 : Int32)
    · skip
      refine Wk.st (g' := (mkF m 29 #[.val (.ref a), .val (.int (4 : Int32)), .val (.ref b2), .val (.int (2 : Int32)), .unset, .unset] [])) (fun X t q => XS.ifYes X.here C.hx rfl (pc0 := 17) (pc' := 29) rfl (hb C.hby d2_17) rfl (XT.i0_lt_t hb601) (by decide) (by decide) q) ?_
      refine Wk.st (g' := (mkF m 32 #[.val (.ref a), .val (.int (4 : Int32)), .val (.ref b2), .val (.int (3 : Int32)), .unset, .unset] [])) (fun X t q => XS.iinc X.here C.hx rfl (hb C.hby d2_29) rfl (l' := #[.val (.ref a), .val (.int (4 : Int32)), .val (.ref b2), .val (.int (3 : Int32)), .unset, .unset]) rfl q) ?_
      refine Wk.st (g' := (mkF m 9 #[.val (.ref a), .val (.int (4 : Int32)), .val (.ref b2), .val (.int (3 : Int32)), .unset, .unset] [])) (fun X t q => XS.goto X.here C.hx rfl (pc0 := 32) (pc' := 9) rfl (hb C.hby d2_32) (by decide) (by decide) q) ?_
      exact JA3 hA2 sz_A2 sz0_A2 K_A2 FA2_0 (FA2_1.congr (fun j hj => no_cn (neg_ne hb601 j)))
    · skip
      refine Wk.st (g' := (mkF m 20 #[.val (.ref a), .val (.int (4 : Int32)), .val (.ref b2), .val (.int (2 : Int32)), .unset, .unset] [])) (fun X t q => XS.ifNo X.here C.hx rfl (hb C.hby d2_17) rfl (XT.i0_lt_f hb601) q) ?_
      refine Wk.st (g' := (mkF m 21 #[.val (.ref a), .val (.int (4 : Int32)), .val (.ref b2), .val (.int (2 : Int32)), .unset, .unset] [(.ref b2)])) (fun X t q => XS.aloadN X.here C.hx rfl (hb C.hby d2_20) rfl rfl q) ?_
      refine Wk.st (g' := (mkF m 22 #[.val (.ref a), .val (.int (4 : Int32)), .val (.ref b2), .val (.int (2 : Int32)), .unset, .unset] [(.ref a), (.ref b2)])) (fun X t q => XS.aloadN X.here C.hx rfl (hb C.hby d2_21) rfl rfl q) ?_
      refine Wk.st (g' := (mkF m 23 #[.val (.ref a), .val (.int (4 : Int32)), .val (.ref b2), .val (.int (2 : Int32)), .unset, .unset] [(.int (2 : Int32)), (.ref a), (.ref b2)])) (fun X t q => XS.iloadN X.here C.hx rfl (hb C.hby d2_22) rfl q) ?_
      refine Wk.fLdI C FA2_0 (i := 2) (by decide) (by decide) (by decide) (v := (.int p2)) (by simp [up]) d2_23 ?_
      show Wk _ p l e _ s m _ below meth c n0 _ hA2 1 4 (mkF m 24 #[.val (.ref a), .val (.int (4 : Int32)), .val (.ref b2), .val (.int (2 : Int32)), .unset, .unset] [(.int p2), (.ref b2)])
      refine Wk.st (g' := (mkF m 25 #[.val (.ref a), .val (.int (4 : Int32)), .val (.ref b2), .val (.int (2 : Int32)), .unset, .unset] [(.int p2), (.ref b2), (.int p2), (.ref b2)])) (fun X t q => XT.dup2 X.here C.hx rfl (hb C.hby d2_24) rfl rfl rfl q) ?_
      refine Wk.fLdI C FA2_1 rfl hb601 (nat4 r2) (v := (.int (cn [p1, p0] p2.toNatClampNeg))) rfl d2_25 ?_
      show Wk _ p l e _ s m _ below meth c n0 _ hA2 1 4 (mkF m 26 #[.val (.ref a), .val (.int (4 : Int32)), .val (.ref b2), .val (.int (2 : Int32)), .unset, .unset] [(.int (cn [p1, p0] p2.toNatClampNeg)), (.int p2), (.ref b2)])
      refine Wk.st (g' := (mkF m 27 #[.val (.ref a), .val (.int (4 : Int32)), .val (.ref b2), .val (.int (2 : Int32)), .unset, .unset] [(.int (1 : Int32)), (.int (cn [p1, p0] p2.toNatClampNeg)), (.int p2), (.ref b2)])) (fun X t q => XS.iconst X.here C.hx rfl (hb C.hby d2_26) q) ?_
      refine Wk.st (g' := (mkF m 28 #[.val (.ref a), .val (.int (4 : Int32)), .val (.ref b2), .val (.int (2 : Int32)), .unset, .unset] [(.int ((cn [p1, p0] p2.toNatClampNeg) + (1 : Int32))), (.int p2), (.ref b2)])) (fun X t q => XS.iadd X.here C.hx rfl (hb C.hby d2_27) rfl q) ?_
      refine Wk.fStI C FA2_1 rfl hb601 (nat4 r2) ge8 d2_28 ?_
      intro h602 W603 F604
      have F605 : Fa Z h602 a .int 4 (up (up (up (up (fun _ => (.int (0 : Int32))) 0 (.int p0)) 1 (.int p1)) 2 (.int p2)) 3 (.int p3)) := FA2_0.other W603 ne7
      have sz606 : n0 ≤ h602.size := Nat.le_trans sz_A2 (Nat.le_of_eq W603.size.symm)
      have sy607 : h0.size ≤ h602.size := Nat.le_trans sz0_A2 (Nat.le_of_eq W603.size.symm)
      have K608 := K_A2.wr W603 (Or.inr gz9)
      show Wk _ p l e _ s m _ below meth c n0 _ h602 1 4 (mkF m 29 #[.val (.ref a), .val (.int (4 : Int32)), .val (.ref b2), .val (.int (2 : Int32)), .unset, .unset] [])
      refine Wk.st (g' := (mkF m 32 #[.val (.ref a), .val (.int (4 : Int32)), .val (.ref b2), .val (.int (3 : Int32)), .unset, .unset] [])) (fun X t q => XS.iinc X.here C.hx rfl (hb C.hby d2_29) rfl (l' := #[.val (.ref a), .val (.int (4 : Int32)), .val (.ref b2), .val (.int (3 : Int32)), .unset, .unset]) rfl q) ?_
      refine Wk.st (g' := (mkF m 9 #[.val (.ref a), .val (.int (4 : Int32)), .val (.ref b2), .val (.int (3 : Int32)), .unset, .unset] [])) (fun X t q => XS.goto X.here C.hx rfl (pc0 := 32) (pc' := 9) rfl (hb C.hby d2_32) (by decide) (by decide) q) ?_
      exact JA3 h602 sz606 sy607 K608 F605 (F604.congr (fun j hj => up_cn (pos_nat hb601) j))
  have JA1 : ∀ (hA1 : Heap), n0 ≤ hA1.size → h0.size ≤ hA1.size → Keep h0 hA1 [] → Fa Z hA1 a .int 4 (up (up (up (up (fun _ => (.int (0 : Int32))) 0 (.int p0)) 1 (.int p1)) 2 (.int p2)) 3 (.int p3)) → Fa Z hA1 b2 .int 4 (fun j => (.int (cn [p0] j))) → Wk false p l e ({ frames := 0, cells := 8, slots := 32, locals := 0 } : Room) s m #[(.ref a)] below meth c n0 (fun v h => ∃ ch c0 c1 c2 c3 : Addr, v = some (.ref ch) ∧ Keep h0 h [] ∧ h0.size ≤ ch ∧ h0.size ≤ c0 ∧ h0.size ≤ c1 ∧ h0.size ≤ c2 ∧ h0.size ≤ c3 ∧ FaA Z h ch .int "[I" 4 (up (up (up (up (fun _ => .null) 0 (.ref c0)) 1 (.ref c1)) 2 (.ref c2)) 3 (.ref c3)) ∧ Fa Z h c0 .int (cn [p3, p2, p1, p0] 0).toNatClampNeg (fun t => (.int (gk [p3, p2, p1, p0] 0 t))) ∧ Fa Z h c1 .int (cn [p3, p2, p1, p0] 1).toNatClampNeg (fun t => (.int (gk [p3, p2, p1, p0] 1 t))) ∧ Fa Z h c2 .int (cn [p3, p2, p1, p0] 2).toNatClampNeg (fun t => (.int (gk [p3, p2, p1, p0] 2 t))) ∧ Fa Z h c3 .int (cn [p3, p2, p1, p0] 3).toNatClampNeg (fun t => (.int (gk [p3, p2, p1, p0] 3 t)))) hA1 1 4 (mkF m 9 #[.val (.ref a), .val (.int (4 : Int32)), .val (.ref b2), .val (.int (1 : Int32)), .unset, .unset] []) := by
    intro hA1 sz_A1 sz0_A1 K_A1 FA1_0 FA1_1
    refine Wk.st (g' := (mkF m 10 #[.val (.ref a), .val (.int (4 : Int32)), .val (.ref b2), .val (.int (1 : Int32)), .unset, .unset] [(.int (1 : Int32))])) (fun X t q => XS.iloadN X.here C.hx rfl (hb C.hby d2_9) rfl q) ?_
    refine Wk.st (g' := (mkF m 11 #[.val (.ref a), .val (.int (4 : Int32)), .val (.ref b2), .val (.int (1 : Int32)), .unset, .unset] [(.int (4 : Int32)), (.int (1 : Int32))])) (fun X t q => XS.iloadN X.here C.hx rfl (hb C.hby d2_10) rfl q) ?_
    refine Wk.st (g' := (mkF m 14 #[.val (.ref a), .val (.int (4 : Int32)), .val (.ref b2), .val (.int (1 : Int32)), .unset, .unset] [])) (fun X t q => XS.icmpNo X.here C.hx rfl (hb C.hby d2_11) rfl (XT.ii_ge_f (by decide)) q) ?_
    refine Wk.st (g' := (mkF m 15 #[.val (.ref a), .val (.int (4 : Int32)), .val (.ref b2), .val (.int (1 : Int32)), .unset, .unset] [(.ref a)])) (fun X t q => XS.aloadN X.here C.hx rfl (hb C.hby d2_14) rfl rfl q) ?_
    refine Wk.st (g' := (mkF m 16 #[.val (.ref a), .val (.int (4 : Int32)), .val (.ref b2), .val (.int (1 : Int32)), .unset, .unset] [(.int (1 : Int32)), (.ref a)])) (fun X t q => XS.iloadN X.here C.hx rfl (hb C.hby d2_15) rfl q) ?_
    refine Wk.fLdI C FA1_0 (i := 1) (by decide) (by decide) (by decide) (v := (.int p1)) (by simp [up]) d2_16 ?_
    show Wk _ p l e _ s m _ below meth c n0 _ hA1 1 4 (mkF m 17 #[.val (.ref a), .val (.int (4 : Int32)), .val (.ref b2), .val (.int (1 : Int32)), .unset, .unset] [(.int p1)])
    by_cases hb609 : p1 < (0 : Int32)
    · skip
      refine Wk.st (g' := (mkF m 29 #[.val (.ref a), .val (.int (4 : Int32)), .val (.ref b2), .val (.int (1 : Int32)), .unset, .unset] [])) (fun X t q => XS.ifYes X.here C.hx rfl (pc0 := 17) (pc' := 29) rfl (hb C.hby d2_17) rfl (XT.i0_lt_t hb609) (by decide) (by decide) q) ?_
      refine Wk.st (g' := (mkF m 32 #[.val (.ref a), .val (.int (4 : Int32)), .val (.ref b2), .val (.int (2 : Int32)), .unset, .unset] [])) (fun X t q => XS.iinc X.here C.hx rfl (hb C.hby d2_29) rfl (l' := #[.val (.ref a), .val (.int (4 : Int32)), .val (.ref b2), .val (.int (2 : Int32)), .unset, .unset]) rfl q) ?_
      refine Wk.st (g' := (mkF m 9 #[.val (.ref a), .val (.int (4 : Int32)), .val (.ref b2), .val (.int (2 : Int32)), .unset, .unset] [])) (fun X t q => XS.goto X.here C.hx rfl (pc0 := 32) (pc' := 9) rfl (hb C.hby d2_32) (by decide) (by decide) q) ?_
      exact JA2 hA1 sz_A1 sz0_A1 K_A1 FA1_0 (FA1_1.congr (fun j hj => no_cn (neg_ne hb609 j)))
    · skip
      refine Wk.st (g' := (mkF m 20 #[.val (.ref a), .val (.int (4 : Int32)), .val (.ref b2), .val (.int (1 : Int32)), .unset, .unset] [])) (fun X t q => XS.ifNo X.here C.hx rfl (hb C.hby d2_17) rfl (XT.i0_lt_f hb609) q) ?_
      refine Wk.st (g' := (mkF m 21 #[.val (.ref a), .val (.int (4 : Int32)), .val (.ref b2), .val (.int (1 : Int32)), .unset, .unset] [(.ref b2)])) (fun X t q => XS.aloadN X.here C.hx rfl (hb C.hby d2_20) rfl rfl q) ?_
      refine Wk.st (g' := (mkF m 22 #[.val (.ref a), .val (.int (4 : Int32)), .val (.ref b2), .val (.int (1 : Int32)), .unset, .unset] [(.ref a), (.ref b2)])) (fun X t q => XS.aloadN X.here C.hx rfl (hb C.hby d2_21) rfl rfl q) ?_
      refine Wk.st (g' := (mkF m 23 #[.val (.ref a), .val (.int (4 : Int32)), .val (.ref b2), .val (.int (1 : Int32)), .unset, .unset] [(.int (1 : Int32)), (.ref a), (.ref b2)])) (fun X t q => XS.iloadN X.here C.hx rfl (hb C.hby d2_22) rfl q) ?_
      refine Wk.fLdI C FA1_0 (i := 1) (by decide) (by decide) (by decide) (v := (.int p1)) (by simp [up]) d2_23 ?_
      show Wk _ p l e _ s m _ below meth c n0 _ hA1 1 4 (mkF m 24 #[.val (.ref a), .val (.int (4 : Int32)), .val (.ref b2), .val (.int (1 : Int32)), .unset, .unset] [(.int p1), (.ref b2)])
      refine Wk.st (g' := (mkF m 25 #[.val (.ref a), .val (.int (4 : Int32)), .val (.ref b2), .val (.int (1 : Int32)), .unset, .unset] [(.int p1), (.ref b2), (.int p1), (.ref b2)])) (fun X t q => XT.dup2 X.here C.hx rfl (hb C.hby d2_24) rfl rfl rfl q) ?_
      refine Wk.fLdI C FA1_1 rfl hb609 (nat4 r1) (v := (.int (cn [p0] p1.toNatClampNeg))) rfl d2_25 ?_
      show Wk _ p l e _ s m _ below meth c n0 _ hA1 1 4 (mkF m 26 #[.val (.ref a), .val (.int (4 : Int32)), .val (.ref b2), .val (.int (1 : Int32)), .unset, .unset] [(.int (cn [p0] p1.toNatClampNeg)), (.int p1), (.ref b2)])
      refine Wk.st (g' := (mkF m 27 #[.val (.ref a), .val (.int (4 : Int32)), .val (.ref b2), .val (.int (1 : Int32)), .unset, .unset] [(.int (1 : Int32)), (.int (cn [p0] p1.toNatClampNeg)), (.int p1), (.ref b2)])) (fun X t q => XS.iconst X.here C.hx rfl (hb C.hby d2_26) q) ?_
      refine Wk.st (g' := (mkF m 28 #[.val (.ref a), .val (.int (4 : Int32)), .val (.ref b2), .val (.int (1 : Int32)), .unset, .unset] [(.int ((cn [p0] p1.toNatClampNeg) + (1 : Int32))), (.int p1), (.ref b2)])) (fun X t q => XS.iadd X.here C.hx rfl (hb C.hby d2_27) rfl q) ?_
      refine Wk.fStI C FA1_1 rfl hb609 (nat4 r1) ge8 d2_28 ?_
      intro h610 W611 F612
      have F613 : Fa Z h610 a .int 4 (up (up (up (up (fun _ => (.int (0 : Int32))) 0 (.int p0)) 1 (.int p1)) 2 (.int p2)) 3 (.int p3)) := FA1_0.other W611 ne7
      have sz614 : n0 ≤ h610.size := Nat.le_trans sz_A1 (Nat.le_of_eq W611.size.symm)
      have sy615 : h0.size ≤ h610.size := Nat.le_trans sz0_A1 (Nat.le_of_eq W611.size.symm)
      have K616 := K_A1.wr W611 (Or.inr gz9)
      show Wk _ p l e _ s m _ below meth c n0 _ h610 1 4 (mkF m 29 #[.val (.ref a), .val (.int (4 : Int32)), .val (.ref b2), .val (.int (1 : Int32)), .unset, .unset] [])
      refine Wk.st (g' := (mkF m 32 #[.val (.ref a), .val (.int (4 : Int32)), .val (.ref b2), .val (.int (2 : Int32)), .unset, .unset] [])) (fun X t q => XS.iinc X.here C.hx rfl (hb C.hby d2_29) rfl (l' := #[.val (.ref a), .val (.int (4 : Int32)), .val (.ref b2), .val (.int (2 : Int32)), .unset, .unset]) rfl q) ?_
      refine Wk.st (g' := (mkF m 9 #[.val (.ref a), .val (.int (4 : Int32)), .val (.ref b2), .val (.int (2 : Int32)), .unset, .unset] [])) (fun X t q => XS.goto X.here C.hx rfl (pc0 := 32) (pc' := 9) rfl (hb C.hby d2_32) (by decide) (by decide) q) ?_
      exact JA2 h610 sz614 sy615 K616 F613 (F612.congr (fun j hj => up_cn (pos_nat hb609) j))
  have JA0 : ∀ (hA0 : Heap), n0 ≤ hA0.size → h0.size ≤ hA0.size → Keep h0 hA0 [] → Fa Z hA0 a .int 4 (up (up (up (up (fun _ => (.int (0 : Int32))) 0 (.int p0)) 1 (.int p1)) 2 (.int p2)) 3 (.int p3)) → Fa Z hA0 b2 .int 4 (fun j => (.int (cn [] j))) → Wk false p l e ({ frames := 0, cells := 8, slots := 32, locals := 0 } : Room) s m #[(.ref a)] below meth c n0 (fun v h => ∃ ch c0 c1 c2 c3 : Addr, v = some (.ref ch) ∧ Keep h0 h [] ∧ h0.size ≤ ch ∧ h0.size ≤ c0 ∧ h0.size ≤ c1 ∧ h0.size ≤ c2 ∧ h0.size ≤ c3 ∧ FaA Z h ch .int "[I" 4 (up (up (up (up (fun _ => .null) 0 (.ref c0)) 1 (.ref c1)) 2 (.ref c2)) 3 (.ref c3)) ∧ Fa Z h c0 .int (cn [p3, p2, p1, p0] 0).toNatClampNeg (fun t => (.int (gk [p3, p2, p1, p0] 0 t))) ∧ Fa Z h c1 .int (cn [p3, p2, p1, p0] 1).toNatClampNeg (fun t => (.int (gk [p3, p2, p1, p0] 1 t))) ∧ Fa Z h c2 .int (cn [p3, p2, p1, p0] 2).toNatClampNeg (fun t => (.int (gk [p3, p2, p1, p0] 2 t))) ∧ Fa Z h c3 .int (cn [p3, p2, p1, p0] 3).toNatClampNeg (fun t => (.int (gk [p3, p2, p1, p0] 3 t)))) hA0 1 4 (mkF m 9 #[.val (.ref a), .val (.int (4 : Int32)), .val (.ref b2), .val (.int (0 : Int32)), .unset, .unset] []) := by
    intro hA0 sz_A0 sz0_A0 K_A0 FA0_0 FA0_1
    refine Wk.st (g' := (mkF m 10 #[.val (.ref a), .val (.int (4 : Int32)), .val (.ref b2), .val (.int (0 : Int32)), .unset, .unset] [(.int (0 : Int32))])) (fun X t q => XS.iloadN X.here C.hx rfl (hb C.hby d2_9) rfl q) ?_
    refine Wk.st (g' := (mkF m 11 #[.val (.ref a), .val (.int (4 : Int32)), .val (.ref b2), .val (.int (0 : Int32)), .unset, .unset] [(.int (4 : Int32)), (.int (0 : Int32))])) (fun X t q => XS.iloadN X.here C.hx rfl (hb C.hby d2_10) rfl q) ?_
    refine Wk.st (g' := (mkF m 14 #[.val (.ref a), .val (.int (4 : Int32)), .val (.ref b2), .val (.int (0 : Int32)), .unset, .unset] [])) (fun X t q => XS.icmpNo X.here C.hx rfl (hb C.hby d2_11) rfl (XT.ii_ge_f (by decide)) q) ?_
    refine Wk.st (g' := (mkF m 15 #[.val (.ref a), .val (.int (4 : Int32)), .val (.ref b2), .val (.int (0 : Int32)), .unset, .unset] [(.ref a)])) (fun X t q => XS.aloadN X.here C.hx rfl (hb C.hby d2_14) rfl rfl q) ?_
    refine Wk.st (g' := (mkF m 16 #[.val (.ref a), .val (.int (4 : Int32)), .val (.ref b2), .val (.int (0 : Int32)), .unset, .unset] [(.int (0 : Int32)), (.ref a)])) (fun X t q => XS.iloadN X.here C.hx rfl (hb C.hby d2_15) rfl q) ?_
    refine Wk.fLdI C FA0_0 (i := 0) (by decide) (by decide) (by decide) (v := (.int p0)) (by simp [up]) d2_16 ?_
    show Wk _ p l e _ s m _ below meth c n0 _ hA0 1 4 (mkF m 17 #[.val (.ref a), .val (.int (4 : Int32)), .val (.ref b2), .val (.int (0 : Int32)), .unset, .unset] [(.int p0)])
    by_cases hb617 : p0 < (0 : Int32)
    · skip
      refine Wk.st (g' := (mkF m 29 #[.val (.ref a), .val (.int (4 : Int32)), .val (.ref b2), .val (.int (0 : Int32)), .unset, .unset] [])) (fun X t q => XS.ifYes X.here C.hx rfl (pc0 := 17) (pc' := 29) rfl (hb C.hby d2_17) rfl (XT.i0_lt_t hb617) (by decide) (by decide) q) ?_
      refine Wk.st (g' := (mkF m 32 #[.val (.ref a), .val (.int (4 : Int32)), .val (.ref b2), .val (.int (1 : Int32)), .unset, .unset] [])) (fun X t q => XS.iinc X.here C.hx rfl (hb C.hby d2_29) rfl (l' := #[.val (.ref a), .val (.int (4 : Int32)), .val (.ref b2), .val (.int (1 : Int32)), .unset, .unset]) rfl q) ?_
      refine Wk.st (g' := (mkF m 9 #[.val (.ref a), .val (.int (4 : Int32)), .val (.ref b2), .val (.int (1 : Int32)), .unset, .unset] [])) (fun X t q => XS.goto X.here C.hx rfl (pc0 := 32) (pc' := 9) rfl (hb C.hby d2_32) (by decide) (by decide) q) ?_
      exact JA1 hA0 sz_A0 sz0_A0 K_A0 FA0_0 (FA0_1.congr (fun j hj => no_cn (neg_ne hb617 j)))
    · skip
      refine Wk.st (g' := (mkF m 20 #[.val (.ref a), .val (.int (4 : Int32)), .val (.ref b2), .val (.int (0 : Int32)), .unset, .unset] [])) (fun X t q => XS.ifNo X.here C.hx rfl (hb C.hby d2_17) rfl (XT.i0_lt_f hb617) q) ?_
      refine Wk.st (g' := (mkF m 21 #[.val (.ref a), .val (.int (4 : Int32)), .val (.ref b2), .val (.int (0 : Int32)), .unset, .unset] [(.ref b2)])) (fun X t q => XS.aloadN X.here C.hx rfl (hb C.hby d2_20) rfl rfl q) ?_
      refine Wk.st (g' := (mkF m 22 #[.val (.ref a), .val (.int (4 : Int32)), .val (.ref b2), .val (.int (0 : Int32)), .unset, .unset] [(.ref a), (.ref b2)])) (fun X t q => XS.aloadN X.here C.hx rfl (hb C.hby d2_21) rfl rfl q) ?_
      refine Wk.st (g' := (mkF m 23 #[.val (.ref a), .val (.int (4 : Int32)), .val (.ref b2), .val (.int (0 : Int32)), .unset, .unset] [(.int (0 : Int32)), (.ref a), (.ref b2)])) (fun X t q => XS.iloadN X.here C.hx rfl (hb C.hby d2_22) rfl q) ?_
      refine Wk.fLdI C FA0_0 (i := 0) (by decide) (by decide) (by decide) (v := (.int p0)) (by simp [up]) d2_23 ?_
      show Wk _ p l e _ s m _ below meth c n0 _ hA0 1 4 (mkF m 24 #[.val (.ref a), .val (.int (4 : Int32)), .val (.ref b2), .val (.int (0 : Int32)), .unset, .unset] [(.int p0), (.ref b2)])
      refine Wk.st (g' := (mkF m 25 #[.val (.ref a), .val (.int (4 : Int32)), .val (.ref b2), .val (.int (0 : Int32)), .unset, .unset] [(.int p0), (.ref b2), (.int p0), (.ref b2)])) (fun X t q => XT.dup2 X.here C.hx rfl (hb C.hby d2_24) rfl rfl rfl q) ?_
      refine Wk.fLdI C FA0_1 rfl hb617 (nat4 r0) (v := (.int (cn [] p0.toNatClampNeg))) rfl d2_25 ?_
      show Wk _ p l e _ s m _ below meth c n0 _ hA0 1 4 (mkF m 26 #[.val (.ref a), .val (.int (4 : Int32)), .val (.ref b2), .val (.int (0 : Int32)), .unset, .unset] [(.int (cn [] p0.toNatClampNeg)), (.int p0), (.ref b2)])
      refine Wk.st (g' := (mkF m 27 #[.val (.ref a), .val (.int (4 : Int32)), .val (.ref b2), .val (.int (0 : Int32)), .unset, .unset] [(.int (1 : Int32)), (.int (cn [] p0.toNatClampNeg)), (.int p0), (.ref b2)])) (fun X t q => XS.iconst X.here C.hx rfl (hb C.hby d2_26) q) ?_
      refine Wk.st (g' := (mkF m 28 #[.val (.ref a), .val (.int (4 : Int32)), .val (.ref b2), .val (.int (0 : Int32)), .unset, .unset] [(.int ((cn [] p0.toNatClampNeg) + (1 : Int32))), (.int p0), (.ref b2)])) (fun X t q => XS.iadd X.here C.hx rfl (hb C.hby d2_27) rfl q) ?_
      refine Wk.fStI C FA0_1 rfl hb617 (nat4 r0) ge8 d2_28 ?_
      intro h618 W619 F620
      have F621 : Fa Z h618 a .int 4 (up (up (up (up (fun _ => (.int (0 : Int32))) 0 (.int p0)) 1 (.int p1)) 2 (.int p2)) 3 (.int p3)) := FA0_0.other W619 ne7
      have sz622 : n0 ≤ h618.size := Nat.le_trans sz_A0 (Nat.le_of_eq W619.size.symm)
      have sy623 : h0.size ≤ h618.size := Nat.le_trans sz0_A0 (Nat.le_of_eq W619.size.symm)
      have K624 := K_A0.wr W619 (Or.inr gz9)
      show Wk _ p l e _ s m _ below meth c n0 _ h618 1 4 (mkF m 29 #[.val (.ref a), .val (.int (4 : Int32)), .val (.ref b2), .val (.int (0 : Int32)), .unset, .unset] [])
      refine Wk.st (g' := (mkF m 32 #[.val (.ref a), .val (.int (4 : Int32)), .val (.ref b2), .val (.int (1 : Int32)), .unset, .unset] [])) (fun X t q => XS.iinc X.here C.hx rfl (hb C.hby d2_29) rfl (l' := #[.val (.ref a), .val (.int (4 : Int32)), .val (.ref b2), .val (.int (1 : Int32)), .unset, .unset]) rfl q) ?_
      refine Wk.st (g' := (mkF m 9 #[.val (.ref a), .val (.int (4 : Int32)), .val (.ref b2), .val (.int (1 : Int32)), .unset, .unset] [])) (fun X t q => XS.goto X.here C.hx rfl (pc0 := 32) (pc' := 9) rfl (hb C.hby d2_32) (by decide) (by decide) q) ?_
      exact JA1 h618 sz622 sy623 K624 F621 (F620.congr (fun j hj => up_cn (pos_nat hb617) j))
  exact JA0 h1 sz11 sy12 K13 F10 (F6.congr (fun j hj => rfl))
theorem d3_0 : decode method_4_code 0 = .ok (.aload_n 0, 1) := by decide +kernel
theorem d3_1 : decode method_4_code 1 = .ok (.ifnonnull 5, 3) := by decide +kernel
theorem d3_4 : decode method_4_code 4 = .ok (.iconst 0, 1) := by decide +kernel
theorem d3_5 : decode method_4_code 5 = .ok (.ireturn, 1) := by decide +kernel
theorem d3_6 : decode method_4_code 6 = .ok (.iconst 4, 1) := by decide +kernel
theorem d3_7 : decode method_4_code 7 = .ok (.newarray .int, 2) := by decide +kernel
theorem d3_9 : decode method_4_code 9 = .ok (.astore 6, 2) := by decide +kernel
theorem d3_11 : decode method_4_code 11 = .ok (.iconst 0, 1) := by decide +kernel
theorem d3_12 : decode method_4_code 12 = .ok (.istore 7, 2) := by decide +kernel
theorem d3_14 : decode method_4_code 14 = .ok (.iload_n 2, 1) := by decide +kernel
theorem d3_15 : decode method_4_code 15 = .ok (.iload_n 1, 1) := by decide +kernel
theorem d3_16 : decode method_4_code 16 = .ok (.if_icmp .ne 12, 3) := by decide +kernel
theorem d3_19 : decode method_4_code 19 = .ok (.aload 6, 2) := by decide +kernel
theorem d3_21 : decode method_4_code 21 = .ok (.iload 7, 2) := by decide +kernel
theorem d3_23 : decode method_4_code 23 = .ok (.iconst 0, 1) := by decide +kernel
theorem d3_24 : decode method_4_code 24 = .ok (.iastore, 1) := by decide +kernel
theorem d3_25 : decode method_4_code 25 = .ok (.iinc 7 1, 3) := by decide +kernel
theorem d3_28 : decode method_4_code 28 = .ok (.iload_n 3, 1) := by decide +kernel
theorem d3_29 : decode method_4_code 29 = .ok (.iload_n 1, 1) := by decide +kernel
theorem d3_30 : decode method_4_code 30 = .ok (.if_icmp .ne 12, 3) := by decide +kernel
theorem d3_33 : decode method_4_code 33 = .ok (.aload 6, 2) := by decide +kernel
theorem d3_35 : decode method_4_code 35 = .ok (.iload 7, 2) := by decide +kernel
theorem d3_37 : decode method_4_code 37 = .ok (.iconst 1, 1) := by decide +kernel
theorem d3_38 : decode method_4_code 38 = .ok (.iastore, 1) := by decide +kernel
theorem d3_39 : decode method_4_code 39 = .ok (.iinc 7 1, 3) := by decide +kernel
theorem d3_42 : decode method_4_code 42 = .ok (.iload 4, 2) := by decide +kernel
theorem d3_44 : decode method_4_code 44 = .ok (.iload_n 1, 1) := by decide +kernel
theorem d3_45 : decode method_4_code 45 = .ok (.if_icmp .ne 12, 3) := by decide +kernel
theorem d3_48 : decode method_4_code 48 = .ok (.aload 6, 2) := by decide +kernel
theorem d3_50 : decode method_4_code 50 = .ok (.iload 7, 2) := by decide +kernel
theorem d3_52 : decode method_4_code 52 = .ok (.iconst 2, 1) := by decide +kernel
theorem d3_53 : decode method_4_code 53 = .ok (.iastore, 1) := by decide +kernel
theorem d3_54 : decode method_4_code 54 = .ok (.iinc 7 1, 3) := by decide +kernel
theorem d3_57 : decode method_4_code 57 = .ok (.iload 5, 2) := by decide +kernel
theorem d3_59 : decode method_4_code 59 = .ok (.iload_n 1, 1) := by decide +kernel
theorem d3_60 : decode method_4_code 60 = .ok (.if_icmp .ne 12, 3) := by decide +kernel
theorem d3_63 : decode method_4_code 63 = .ok (.aload 6, 2) := by decide +kernel
theorem d3_65 : decode method_4_code 65 = .ok (.iload 7, 2) := by decide +kernel
theorem d3_67 : decode method_4_code 67 = .ok (.iconst 3, 1) := by decide +kernel
theorem d3_68 : decode method_4_code 68 = .ok (.iastore, 1) := by decide +kernel
theorem d3_69 : decode method_4_code 69 = .ok (.iinc 7 1, 3) := by decide +kernel
theorem d3_72 : decode method_4_code 72 = .ok (.aload_n 0, 1) := by decide +kernel
theorem d3_73 : decode method_4_code 73 = .ok (.arraylength, 1) := by decide +kernel
theorem d3_74 : decode method_4_code 74 = .ok (.iload 7, 2) := by decide +kernel
theorem d3_76 : decode method_4_code 76 = .ok (.if_icmp .eq 5, 3) := by decide +kernel
theorem d3_79 : decode method_4_code 79 = .ok (.iconst 0, 1) := by decide +kernel
theorem d3_80 : decode method_4_code 80 = .ok (.ireturn, 1) := by decide +kernel
theorem d3_81 : decode method_4_code 81 = .ok (.iload 7, 2) := by decide +kernel
theorem d3_83 : decode method_4_code 83 = .ok (.iconst 1, 1) := by decide +kernel
theorem d3_84 : decode method_4_code 84 = .ok (.if_icmp .lt 13, 3) := by decide +kernel
theorem d3_87 : decode method_4_code 87 = .ok (.aload_n 0, 1) := by decide +kernel
theorem d3_88 : decode method_4_code 88 = .ok (.iconst 0, 1) := by decide +kernel
theorem d3_89 : decode method_4_code 89 = .ok (.iaload, 1) := by decide +kernel
theorem d3_90 : decode method_4_code 90 = .ok (.aload 6, 2) := by decide +kernel
theorem d3_92 : decode method_4_code 92 = .ok (.iconst 0, 1) := by decide +kernel
theorem d3_93 : decode method_4_code 93 = .ok (.iaload, 1) := by decide +kernel
theorem d3_94 : decode method_4_code 94 = .ok (.if_icmp .ne 55, 3) := by decide +kernel
theorem d3_97 : decode method_4_code 97 = .ok (.iload 7, 2) := by decide +kernel
theorem d3_99 : decode method_4_code 99 = .ok (.iconst 2, 1) := by decide +kernel
theorem d3_100 : decode method_4_code 100 = .ok (.if_icmp .lt 13, 3) := by decide +kernel
theorem d3_103 : decode method_4_code 103 = .ok (.aload_n 0, 1) := by decide +kernel
theorem d3_104 : decode method_4_code 104 = .ok (.iconst 1, 1) := by decide +kernel
theorem d3_105 : decode method_4_code 105 = .ok (.iaload, 1) := by decide +kernel
theorem d3_106 : decode method_4_code 106 = .ok (.aload 6, 2) := by decide +kernel
theorem d3_108 : decode method_4_code 108 = .ok (.iconst 1, 1) := by decide +kernel
theorem d3_109 : decode method_4_code 109 = .ok (.iaload, 1) := by decide +kernel
theorem d3_110 : decode method_4_code 110 = .ok (.if_icmp .ne 39, 3) := by decide +kernel
theorem d3_113 : decode method_4_code 113 = .ok (.iload 7, 2) := by decide +kernel
theorem d3_115 : decode method_4_code 115 = .ok (.iconst 3, 1) := by decide +kernel
theorem d3_116 : decode method_4_code 116 = .ok (.if_icmp .lt 13, 3) := by decide +kernel
theorem d3_119 : decode method_4_code 119 = .ok (.aload_n 0, 1) := by decide +kernel
theorem d3_120 : decode method_4_code 120 = .ok (.iconst 2, 1) := by decide +kernel
theorem d3_121 : decode method_4_code 121 = .ok (.iaload, 1) := by decide +kernel
theorem d3_122 : decode method_4_code 122 = .ok (.aload 6, 2) := by decide +kernel
theorem d3_124 : decode method_4_code 124 = .ok (.iconst 2, 1) := by decide +kernel
theorem d3_125 : decode method_4_code 125 = .ok (.iaload, 1) := by decide +kernel
theorem d3_126 : decode method_4_code 126 = .ok (.if_icmp .ne 23, 3) := by decide +kernel
theorem d3_129 : decode method_4_code 129 = .ok (.iload 7, 2) := by decide +kernel
theorem d3_131 : decode method_4_code 131 = .ok (.iconst 4, 1) := by decide +kernel
theorem d3_132 : decode method_4_code 132 = .ok (.if_icmp .lt 13, 3) := by decide +kernel
theorem d3_135 : decode method_4_code 135 = .ok (.aload_n 0, 1) := by decide +kernel
theorem d3_136 : decode method_4_code 136 = .ok (.iconst 3, 1) := by decide +kernel
theorem d3_137 : decode method_4_code 137 = .ok (.iaload, 1) := by decide +kernel
theorem d3_138 : decode method_4_code 138 = .ok (.aload 6, 2) := by decide +kernel
theorem d3_140 : decode method_4_code 140 = .ok (.iconst 3, 1) := by decide +kernel
theorem d3_141 : decode method_4_code 141 = .ok (.iaload, 1) := by decide +kernel
theorem d3_142 : decode method_4_code 142 = .ok (.if_icmp .ne 7, 3) := by decide +kernel
theorem d3_145 : decode method_4_code 145 = .ok (.iconst 1, 1) := by decide +kernel
theorem d3_146 : decode method_4_code 146 = .ok (.goto 4, 3) := by decide +kernel
theorem d3_149 : decode method_4_code 149 = .ok (.iconst 0, 1) := by decide +kernel
theorem d3_150 : decode method_4_code 150 = .ok (.ireturn, 1) := by decide +kernel
set_option maxRecDepth 65536 in
set_option maxHeartbeats 40000000 in
theorem own_holds (l : Launch) (Z : State) (a0 : Array Value) (hw : ∀ d ∈ tables_1, d.before a0 Z = true) (n0 : Nat) (h0 : Heap) (hsz : n0 ≤ h0.size) (g : Addr) (node p0 p1 p2 p3 : Int32) (J : Nat) (hJ : node.toInt = (J : Int)) (PG : Fa Z h0 g .int (cn [p3, p2, p1, p0] J).toNatClampNeg (fun t => (.int (gk [p3, p2, p1, p0] J t)))) :
    Met false l Z n0 (⟨"com/example/understory/understory/RootedTreeChildrenOfPinLaw", "holds", "([IIIIII)Z"⟩ : MethodName) method_4_code 8 (some .boolean) ({ frames := 0, cells := 1, slots := 4, locals := 0 } : Room) #[(.ref g), (.int node), (.int p0), (.int p1), (.int p2), (.int p3)] h0 (fun v h => v = some (.int 1) ∧ Keep h0 h []) := by
  refine Met.of pn_0 #[.val (.ref g), .val (.int node), .val (.int p0), .val (.int p1), .val (.int p2), .val (.int p3), .unset, .unset] (fun m => by first | (simp [entryFrame, mkF, argsToLocals, Value.category]; done) | rfl) ?_
  intro p e s m below meth c C
  refine Wk.st (g' := (mkF m 1 #[.val (.ref g), .val (.int node), .val (.int p0), .val (.int p1), .val (.int p2), .val (.int p3), .unset, .unset] [(.ref g)])) (fun X t q => XS.aloadN X.here C.hx rfl (hb C.hby d3_0) rfl rfl q) ?_
  refine Wk.st (g' := (mkF m 6 #[.val (.ref g), .val (.int node), .val (.int p0), .val (.int p1), .val (.int p2), .val (.int p3), .unset, .unset] [])) (fun X t q => XS.ifnonnullYes X.here C.hx rfl (pc0 := 1) (pc' := 6) rfl (hb C.hby d3_1) rfl (by decide) (by decide) q) ?_
  refine Wk.st (g' := (mkF m 7 #[.val (.ref g), .val (.int node), .val (.int p0), .val (.int p1), .val (.int p2), .val (.int p3), .unset, .unset] [(.int (4 : Int32))])) (fun X t q => XS.iconst X.here C.hx rfl (hb C.hby d3_6) q) ?_
  refine Wk.fNewP C (hw _ (List.mem_of_getElem? (i := 5) rfl)) (ty := .int) (dv := (.int (0 : Int32))) (N := 4) (ad := "[I") rfl rfl (by decide) (by decide) (by decide) (cap := 4) (by decide) (by decide) d3_7 (by decide) (by decide) ?_
  intro h1 b2 g3 E4 A5 F6
  have ne7 : g ≠ b2 := Nat.ne_of_lt (Nat.lt_of_lt_of_le PG.lt (Nat.le_of_eq g3.symm))
  have ge8 : n0 ≤ b2 := Nat.le_trans hsz (Nat.le_of_eq g3.symm)
  have gz9 : h0.size ≤ b2 := Nat.le_trans (Nat.le_refl h0.size) (Nat.le_of_eq g3.symm)
  have F10 : Fa Z h1 g .int (cn [p3, p2, p1, p0] J).toNatClampNeg (fun t => (.int (gk [p3, p2, p1, p0] J t))) := PG.ext E4
  have sz11 : n0 ≤ h1.size := Nat.le_trans hsz E4.1
  have sy12 : h0.size ≤ h1.size := Nat.le_trans (Nat.le_refl h0.size) E4.1
  have K13 := (Keep.refl h0 []).ext E4
  show Wk _ p l e _ s m _ below meth c n0 _ h1 1 4 (mkF m 9 #[.val (.ref g), .val (.int node), .val (.int p0), .val (.int p1), .val (.int p2), .val (.int p3), .unset, .unset] [(.ref b2)])
  refine Wk.st (g' := (mkF m 11 #[.val (.ref g), .val (.int node), .val (.int p0), .val (.int p1), .val (.int p2), .val (.int p3), .val (.ref b2), .unset] [])) (fun X t q => XS.astore X.here C.hx rfl (hb C.hby d3_9) rfl rfl (l' := #[.val (.ref g), .val (.int node), .val (.int p0), .val (.int p1), .val (.int p2), .val (.int p3), .val (.ref b2), .unset]) rfl q) ?_
  refine Wk.st (g' := (mkF m 12 #[.val (.ref g), .val (.int node), .val (.int p0), .val (.int p1), .val (.int p2), .val (.int p3), .val (.ref b2), .unset] [(.int (0 : Int32))])) (fun X t q => XS.iconst X.here C.hx rfl (hb C.hby d3_11) q) ?_
  refine Wk.st (g' := (mkF m 14 #[.val (.ref g), .val (.int node), .val (.int p0), .val (.int p1), .val (.int p2), .val (.int p3), .val (.ref b2), .val (.int (0 : Int32))] [])) (fun X t q => XS.istore X.here C.hx rfl (hb C.hby d3_12) rfl (l' := #[.val (.ref g), .val (.int node), .val (.int p0), .val (.int p1), .val (.int p2), .val (.int p3), .val (.ref b2), .val (.int (0 : Int32))]) rfl q) ?_
  refine Wk.st (g' := (mkF m 15 #[.val (.ref g), .val (.int node), .val (.int p0), .val (.int p1), .val (.int p2), .val (.int p3), .val (.ref b2), .val (.int (0 : Int32))] [(.int p0)])) (fun X t q => XS.iloadN X.here C.hx rfl (hb C.hby d3_14) rfl q) ?_
  refine Wk.st (g' := (mkF m 16 #[.val (.ref g), .val (.int node), .val (.int p0), .val (.int p1), .val (.int p2), .val (.int p3), .val (.ref b2), .val (.int (0 : Int32))] [(.int node), (.int p0)])) (fun X t q => XS.iloadN X.here C.hx rfl (hb C.hby d3_15) rfl q) ?_
  by_cases hb14 : p0 = node
  · skip
    refine Wk.st (g' := (mkF m 19 #[.val (.ref g), .val (.int node), .val (.int p0), .val (.int p1), .val (.int p2), .val (.int p3), .val (.ref b2), .val (.int (0 : Int32))] [])) (fun X t q => XS.icmpNo X.here C.hx rfl (hb C.hby d3_16) rfl (XT.ii_ne_f hb14) q) ?_
    refine Wk.st (g' := (mkF m 21 #[.val (.ref g), .val (.int node), .val (.int p0), .val (.int p1), .val (.int p2), .val (.int p3), .val (.ref b2), .val (.int (0 : Int32))] [(.ref b2)])) (fun X t q => XS.aload X.here C.hx rfl (hb C.hby d3_19) rfl rfl q) ?_
    refine Wk.st (g' := (mkF m 23 #[.val (.ref g), .val (.int node), .val (.int p0), .val (.int p1), .val (.int p2), .val (.int p3), .val (.ref b2), .val (.int (0 : Int32))] [(.int (0 : Int32)), (.ref b2)])) (fun X t q => XS.iload X.here C.hx rfl (hb C.hby d3_21) rfl q) ?_
    refine Wk.st (g' := (mkF m 24 #[.val (.ref g), .val (.int node), .val (.int p0), .val (.int p1), .val (.int p2), .val (.int p3), .val (.ref b2), .val (.int (0 : Int32))] [(.int (0 : Int32)), (.int (0 : Int32)), (.ref b2)])) (fun X t q => XS.iconst X.here C.hx rfl (hb C.hby d3_23) q) ?_
    refine Wk.fStI C F6 (i := 0) (by decide) (by decide) (by decide) ge8 d3_24 ?_
    intro h15 W16 F17
    have F18 : Fa Z h15 g .int (cn [p3, p2, p1, p0] J).toNatClampNeg (fun t => (.int (gk [p3, p2, p1, p0] J t))) := F10.other W16 ne7
    have F19 : Exa Z h15 b2 "[I" := A5.wr W16
    have sz20 : n0 ≤ h15.size := Nat.le_trans sz11 (Nat.le_of_eq W16.size.symm)
    have sy21 : h0.size ≤ h15.size := Nat.le_trans sy12 (Nat.le_of_eq W16.size.symm)
    have K22 := K13.wr W16 (Or.inr gz9)
    show Wk _ p l e _ s m _ below meth c n0 _ h15 1 4 (mkF m 25 #[.val (.ref g), .val (.int node), .val (.int p0), .val (.int p1), .val (.int p2), .val (.int p3), .val (.ref b2), .val (.int (0 : Int32))] [])
    refine Wk.st (g' := (mkF m 28 #[.val (.ref g), .val (.int node), .val (.int p0), .val (.int p1), .val (.int p2), .val (.int p3), .val (.ref b2), .val (.int (1 : Int32))] [])) (fun X t q => XS.iinc X.here C.hx rfl (hb C.hby d3_25) rfl (l' := #[.val (.ref g), .val (.int node), .val (.int p0), .val (.int p1), .val (.int p2), .val (.int p3), .val (.ref b2), .val (.int (1 : Int32))]) rfl q) ?_
    refine Wk.st (g' := (mkF m 29 #[.val (.ref g), .val (.int node), .val (.int p0), .val (.int p1), .val (.int p2), .val (.int p3), .val (.ref b2), .val (.int (1 : Int32))] [(.int p1)])) (fun X t q => XS.iloadN X.here C.hx rfl (hb C.hby d3_28) rfl q) ?_
    refine Wk.st (g' := (mkF m 30 #[.val (.ref g), .val (.int node), .val (.int p0), .val (.int p1), .val (.int p2), .val (.int p3), .val (.ref b2), .val (.int (1 : Int32))] [(.int node), (.int p1)])) (fun X t q => XS.iloadN X.here C.hx rfl (hb C.hby d3_29) rfl q) ?_
    by_cases hb23 : p1 = node
    · skip
      refine Wk.st (g' := (mkF m 33 #[.val (.ref g), .val (.int node), .val (.int p0), .val (.int p1), .val (.int p2), .val (.int p3), .val (.ref b2), .val (.int (1 : Int32))] [])) (fun X t q => XS.icmpNo X.here C.hx rfl (hb C.hby d3_30) rfl (XT.ii_ne_f hb23) q) ?_
      refine Wk.st (g' := (mkF m 35 #[.val (.ref g), .val (.int node), .val (.int p0), .val (.int p1), .val (.int p2), .val (.int p3), .val (.ref b2), .val (.int (1 : Int32))] [(.ref b2)])) (fun X t q => XS.aload X.here C.hx rfl (hb C.hby d3_33) rfl rfl q) ?_
      refine Wk.st (g' := (mkF m 37 #[.val (.ref g), .val (.int node), .val (.int p0), .val (.int p1), .val (.int p2), .val (.int p3), .val (.ref b2), .val (.int (1 : Int32))] [(.int (1 : Int32)), (.ref b2)])) (fun X t q => XS.iload X.here C.hx rfl (hb C.hby d3_35) rfl q) ?_
      refine Wk.st (g' := (mkF m 38 #[.val (.ref g), .val (.int node), .val (.int p0), .val (.int p1), .val (.int p2), .val (.int p3), .val (.ref b2), .val (.int (1 : Int32))] [(.int (1 : Int32)), (.int (1 : Int32)), (.ref b2)])) (fun X t q => XS.iconst X.here C.hx rfl (hb C.hby d3_37) q) ?_
      refine Wk.fStI C F17 (i := 1) (by decide) (by decide) (by decide) ge8 d3_38 ?_
      intro h24 W25 F26
      have F27 : Fa Z h24 g .int (cn [p3, p2, p1, p0] J).toNatClampNeg (fun t => (.int (gk [p3, p2, p1, p0] J t))) := F18.other W25 ne7
      have F28 : Exa Z h24 b2 "[I" := F19.wr W25
      have sz29 : n0 ≤ h24.size := Nat.le_trans sz20 (Nat.le_of_eq W25.size.symm)
      have sy30 : h0.size ≤ h24.size := Nat.le_trans sy21 (Nat.le_of_eq W25.size.symm)
      have K31 := K22.wr W25 (Or.inr gz9)
      show Wk _ p l e _ s m _ below meth c n0 _ h24 1 4 (mkF m 39 #[.val (.ref g), .val (.int node), .val (.int p0), .val (.int p1), .val (.int p2), .val (.int p3), .val (.ref b2), .val (.int (1 : Int32))] [])
      refine Wk.st (g' := (mkF m 42 #[.val (.ref g), .val (.int node), .val (.int p0), .val (.int p1), .val (.int p2), .val (.int p3), .val (.ref b2), .val (.int (2 : Int32))] [])) (fun X t q => XS.iinc X.here C.hx rfl (hb C.hby d3_39) rfl (l' := #[.val (.ref g), .val (.int node), .val (.int p0), .val (.int p1), .val (.int p2), .val (.int p3), .val (.ref b2), .val (.int (2 : Int32))]) rfl q) ?_
      refine Wk.st (g' := (mkF m 44 #[.val (.ref g), .val (.int node), .val (.int p0), .val (.int p1), .val (.int p2), .val (.int p3), .val (.ref b2), .val (.int (2 : Int32))] [(.int p2)])) (fun X t q => XS.iload X.here C.hx rfl (hb C.hby d3_42) rfl q) ?_
      refine Wk.st (g' := (mkF m 45 #[.val (.ref g), .val (.int node), .val (.int p0), .val (.int p1), .val (.int p2), .val (.int p3), .val (.ref b2), .val (.int (2 : Int32))] [(.int node), (.int p2)])) (fun X t q => XS.iloadN X.here C.hx rfl (hb C.hby d3_44) rfl q) ?_
      by_cases hb32 : p2 = node
      · skip
        refine Wk.st (g' := (mkF m 48 #[.val (.ref g), .val (.int node), .val (.int p0), .val (.int p1), .val (.int p2), .val (.int p3), .val (.ref b2), .val (.int (2 : Int32))] [])) (fun X t q => XS.icmpNo X.here C.hx rfl (hb C.hby d3_45) rfl (XT.ii_ne_f hb32) q) ?_
        refine Wk.st (g' := (mkF m 50 #[.val (.ref g), .val (.int node), .val (.int p0), .val (.int p1), .val (.int p2), .val (.int p3), .val (.ref b2), .val (.int (2 : Int32))] [(.ref b2)])) (fun X t q => XS.aload X.here C.hx rfl (hb C.hby d3_48) rfl rfl q) ?_
        refine Wk.st (g' := (mkF m 52 #[.val (.ref g), .val (.int node), .val (.int p0), .val (.int p1), .val (.int p2), .val (.int p3), .val (.ref b2), .val (.int (2 : Int32))] [(.int (2 : Int32)), (.ref b2)])) (fun X t q => XS.iload X.here C.hx rfl (hb C.hby d3_50) rfl q) ?_
        refine Wk.st (g' := (mkF m 53 #[.val (.ref g), .val (.int node), .val (.int p0), .val (.int p1), .val (.int p2), .val (.int p3), .val (.ref b2), .val (.int (2 : Int32))] [(.int (2 : Int32)), (.int (2 : Int32)), (.ref b2)])) (fun X t q => XS.iconst X.here C.hx rfl (hb C.hby d3_52) q) ?_
        refine Wk.fStI C F26 (i := 2) (by decide) (by decide) (by decide) ge8 d3_53 ?_
        intro h33 W34 F35
        have F36 : Fa Z h33 g .int (cn [p3, p2, p1, p0] J).toNatClampNeg (fun t => (.int (gk [p3, p2, p1, p0] J t))) := F27.other W34 ne7
        have F37 : Exa Z h33 b2 "[I" := F28.wr W34
        have sz38 : n0 ≤ h33.size := Nat.le_trans sz29 (Nat.le_of_eq W34.size.symm)
        have sy39 : h0.size ≤ h33.size := Nat.le_trans sy30 (Nat.le_of_eq W34.size.symm)
        have K40 := K31.wr W34 (Or.inr gz9)
        show Wk _ p l e _ s m _ below meth c n0 _ h33 1 4 (mkF m 54 #[.val (.ref g), .val (.int node), .val (.int p0), .val (.int p1), .val (.int p2), .val (.int p3), .val (.ref b2), .val (.int (2 : Int32))] [])
        refine Wk.st (g' := (mkF m 57 #[.val (.ref g), .val (.int node), .val (.int p0), .val (.int p1), .val (.int p2), .val (.int p3), .val (.ref b2), .val (.int (3 : Int32))] [])) (fun X t q => XS.iinc X.here C.hx rfl (hb C.hby d3_54) rfl (l' := #[.val (.ref g), .val (.int node), .val (.int p0), .val (.int p1), .val (.int p2), .val (.int p3), .val (.ref b2), .val (.int (3 : Int32))]) rfl q) ?_
        refine Wk.st (g' := (mkF m 59 #[.val (.ref g), .val (.int node), .val (.int p0), .val (.int p1), .val (.int p2), .val (.int p3), .val (.ref b2), .val (.int (3 : Int32))] [(.int p3)])) (fun X t q => XS.iload X.here C.hx rfl (hb C.hby d3_57) rfl q) ?_
        refine Wk.st (g' := (mkF m 60 #[.val (.ref g), .val (.int node), .val (.int p0), .val (.int p1), .val (.int p2), .val (.int p3), .val (.ref b2), .val (.int (3 : Int32))] [(.int node), (.int p3)])) (fun X t q => XS.iloadN X.here C.hx rfl (hb C.hby d3_59) rfl q) ?_
        by_cases hb41 : p3 = node
        · skip
          refine Wk.st (g' := (mkF m 63 #[.val (.ref g), .val (.int node), .val (.int p0), .val (.int p1), .val (.int p2), .val (.int p3), .val (.ref b2), .val (.int (3 : Int32))] [])) (fun X t q => XS.icmpNo X.here C.hx rfl (hb C.hby d3_60) rfl (XT.ii_ne_f hb41) q) ?_
          refine Wk.st (g' := (mkF m 65 #[.val (.ref g), .val (.int node), .val (.int p0), .val (.int p1), .val (.int p2), .val (.int p3), .val (.ref b2), .val (.int (3 : Int32))] [(.ref b2)])) (fun X t q => XS.aload X.here C.hx rfl (hb C.hby d3_63) rfl rfl q) ?_
          refine Wk.st (g' := (mkF m 67 #[.val (.ref g), .val (.int node), .val (.int p0), .val (.int p1), .val (.int p2), .val (.int p3), .val (.ref b2), .val (.int (3 : Int32))] [(.int (3 : Int32)), (.ref b2)])) (fun X t q => XS.iload X.here C.hx rfl (hb C.hby d3_65) rfl q) ?_
          refine Wk.st (g' := (mkF m 68 #[.val (.ref g), .val (.int node), .val (.int p0), .val (.int p1), .val (.int p2), .val (.int p3), .val (.ref b2), .val (.int (3 : Int32))] [(.int (3 : Int32)), (.int (3 : Int32)), (.ref b2)])) (fun X t q => XS.iconst X.here C.hx rfl (hb C.hby d3_67) q) ?_
          refine Wk.fStI C F35 (i := 3) (by decide) (by decide) (by decide) ge8 d3_68 ?_
          intro h42 W43 F44
          have F45 : Fa Z h42 g .int (cn [p3, p2, p1, p0] J).toNatClampNeg (fun t => (.int (gk [p3, p2, p1, p0] J t))) := F36.other W43 ne7
          have F46 : Exa Z h42 b2 "[I" := F37.wr W43
          have sz47 : n0 ≤ h42.size := Nat.le_trans sz38 (Nat.le_of_eq W43.size.symm)
          have sy48 : h0.size ≤ h42.size := Nat.le_trans sy39 (Nat.le_of_eq W43.size.symm)
          have K49 := K40.wr W43 (Or.inr gz9)
          show Wk _ p l e _ s m _ below meth c n0 _ h42 1 4 (mkF m 69 #[.val (.ref g), .val (.int node), .val (.int p0), .val (.int p1), .val (.int p2), .val (.int p3), .val (.ref b2), .val (.int (3 : Int32))] [])
          refine Wk.st (g' := (mkF m 72 #[.val (.ref g), .val (.int node), .val (.int p0), .val (.int p1), .val (.int p2), .val (.int p3), .val (.ref b2), .val (.int (4 : Int32))] [])) (fun X t q => XS.iinc X.here C.hx rfl (hb C.hby d3_69) rfl (l' := #[.val (.ref g), .val (.int node), .val (.int p0), .val (.int p1), .val (.int p2), .val (.int p3), .val (.ref b2), .val (.int (4 : Int32))]) rfl q) ?_
          refine Wk.st (g' := (mkF m 73 #[.val (.ref g), .val (.int node), .val (.int p0), .val (.int p1), .val (.int p2), .val (.int p3), .val (.ref b2), .val (.int (4 : Int32))] [(.ref g)])) (fun X t q => XS.aloadN X.here C.hx rfl (hb C.hby d3_72) rfl rfl q) ?_
          refine Wk.fLen C F45 (z := (4 : Int32)) (by simp [cn, (to_yes hJ hb14), (to_yes hJ hb23), (to_yes hJ hb32), (to_yes hJ hb41)] <;> decide) d3_73 ?_
          show Wk _ p l e _ s m _ below meth c n0 _ h42 1 4 (mkF m 74 #[.val (.ref g), .val (.int node), .val (.int p0), .val (.int p1), .val (.int p2), .val (.int p3), .val (.ref b2), .val (.int (4 : Int32))] [(.int (4 : Int32))])
          refine Wk.st (g' := (mkF m 76 #[.val (.ref g), .val (.int node), .val (.int p0), .val (.int p1), .val (.int p2), .val (.int p3), .val (.ref b2), .val (.int (4 : Int32))] [(.int (4 : Int32)), (.int (4 : Int32))])) (fun X t q => XS.iload X.here C.hx rfl (hb C.hby d3_74) rfl q) ?_
          refine Wk.st (g' := (mkF m 81 #[.val (.ref g), .val (.int node), .val (.int p0), .val (.int p1), .val (.int p2), .val (.int p3), .val (.ref b2), .val (.int (4 : Int32))] [])) (fun X t q => XS.icmpYes X.here C.hx rfl (pc0 := 76) (pc' := 81) rfl (hb C.hby d3_76) rfl (XT.ii_eq_t (by decide)) (by decide) (by decide) q) ?_
          refine Wk.st (g' := (mkF m 83 #[.val (.ref g), .val (.int node), .val (.int p0), .val (.int p1), .val (.int p2), .val (.int p3), .val (.ref b2), .val (.int (4 : Int32))] [(.int (4 : Int32))])) (fun X t q => XS.iload X.here C.hx rfl (hb C.hby d3_81) rfl q) ?_
          refine Wk.st (g' := (mkF m 84 #[.val (.ref g), .val (.int node), .val (.int p0), .val (.int p1), .val (.int p2), .val (.int p3), .val (.ref b2), .val (.int (4 : Int32))] [(.int (1 : Int32)), (.int (4 : Int32))])) (fun X t q => XS.iconst X.here C.hx rfl (hb C.hby d3_83) q) ?_
          refine Wk.st (g' := (mkF m 87 #[.val (.ref g), .val (.int node), .val (.int p0), .val (.int p1), .val (.int p2), .val (.int p3), .val (.ref b2), .val (.int (4 : Int32))] [])) (fun X t q => XS.icmpNo X.here C.hx rfl (hb C.hby d3_84) rfl (XT.ii_lt_f (by decide)) q) ?_
          refine Wk.st (g' := (mkF m 88 #[.val (.ref g), .val (.int node), .val (.int p0), .val (.int p1), .val (.int p2), .val (.int p3), .val (.ref b2), .val (.int (4 : Int32))] [(.ref g)])) (fun X t q => XS.aloadN X.here C.hx rfl (hb C.hby d3_87) rfl rfl q) ?_
          refine Wk.st (g' := (mkF m 89 #[.val (.ref g), .val (.int node), .val (.int p0), .val (.int p1), .val (.int p2), .val (.int p3), .val (.ref b2), .val (.int (4 : Int32))] [(.int (0 : Int32)), (.ref g)])) (fun X t q => XS.iconst X.here C.hx rfl (hb C.hby d3_88) q) ?_
          refine Wk.fLdI C F45 (i := 0) (by decide) (by decide) (by simp [cn, (to_yes hJ hb14), (to_yes hJ hb23), (to_yes hJ hb32), (to_yes hJ hb41)] <;> decide) (v := (.int (0 : Int32))) (by simp [gk, cn, (to_yes hJ hb14), (to_yes hJ hb23), (to_yes hJ hb32), (to_yes hJ hb41)] <;> decide) d3_89 ?_
          show Wk _ p l e _ s m _ below meth c n0 _ h42 1 4 (mkF m 90 #[.val (.ref g), .val (.int node), .val (.int p0), .val (.int p1), .val (.int p2), .val (.int p3), .val (.ref b2), .val (.int (4 : Int32))] [(.int (0 : Int32))])
          refine Wk.st (g' := (mkF m 92 #[.val (.ref g), .val (.int node), .val (.int p0), .val (.int p1), .val (.int p2), .val (.int p3), .val (.ref b2), .val (.int (4 : Int32))] [(.ref b2), (.int (0 : Int32))])) (fun X t q => XS.aload X.here C.hx rfl (hb C.hby d3_90) rfl rfl q) ?_
          refine Wk.st (g' := (mkF m 93 #[.val (.ref g), .val (.int node), .val (.int p0), .val (.int p1), .val (.int p2), .val (.int p3), .val (.ref b2), .val (.int (4 : Int32))] [(.int (0 : Int32)), (.ref b2), (.int (0 : Int32))])) (fun X t q => XS.iconst X.here C.hx rfl (hb C.hby d3_92) q) ?_
          refine Wk.fLdI C F44 (i := 0) (by decide) (by decide) (by decide) (v := (.int (0 : Int32))) (by simp [up]) d3_93 ?_
          show Wk _ p l e _ s m _ below meth c n0 _ h42 1 4 (mkF m 94 #[.val (.ref g), .val (.int node), .val (.int p0), .val (.int p1), .val (.int p2), .val (.int p3), .val (.ref b2), .val (.int (4 : Int32))] [(.int (0 : Int32)), (.int (0 : Int32))])
          refine Wk.st (g' := (mkF m 97 #[.val (.ref g), .val (.int node), .val (.int p0), .val (.int p1), .val (.int p2), .val (.int p3), .val (.ref b2), .val (.int (4 : Int32))] [])) (fun X t q => XS.icmpNo X.here C.hx rfl (hb C.hby d3_94) rfl (XT.ii_ne_f (by decide)) q) ?_
          refine Wk.st (g' := (mkF m 99 #[.val (.ref g), .val (.int node), .val (.int p0), .val (.int p1), .val (.int p2), .val (.int p3), .val (.ref b2), .val (.int (4 : Int32))] [(.int (4 : Int32))])) (fun X t q => XS.iload X.here C.hx rfl (hb C.hby d3_97) rfl q) ?_
          refine Wk.st (g' := (mkF m 100 #[.val (.ref g), .val (.int node), .val (.int p0), .val (.int p1), .val (.int p2), .val (.int p3), .val (.ref b2), .val (.int (4 : Int32))] [(.int (2 : Int32)), (.int (4 : Int32))])) (fun X t q => XS.iconst X.here C.hx rfl (hb C.hby d3_99) q) ?_
          refine Wk.st (g' := (mkF m 103 #[.val (.ref g), .val (.int node), .val (.int p0), .val (.int p1), .val (.int p2), .val (.int p3), .val (.ref b2), .val (.int (4 : Int32))] [])) (fun X t q => XS.icmpNo X.here C.hx rfl (hb C.hby d3_100) rfl (XT.ii_lt_f (by decide)) q) ?_
          refine Wk.st (g' := (mkF m 104 #[.val (.ref g), .val (.int node), .val (.int p0), .val (.int p1), .val (.int p2), .val (.int p3), .val (.ref b2), .val (.int (4 : Int32))] [(.ref g)])) (fun X t q => XS.aloadN X.here C.hx rfl (hb C.hby d3_103) rfl rfl q) ?_
          refine Wk.st (g' := (mkF m 105 #[.val (.ref g), .val (.int node), .val (.int p0), .val (.int p1), .val (.int p2), .val (.int p3), .val (.ref b2), .val (.int (4 : Int32))] [(.int (1 : Int32)), (.ref g)])) (fun X t q => XS.iconst X.here C.hx rfl (hb C.hby d3_104) q) ?_
          refine Wk.fLdI C F45 (i := 1) (by decide) (by decide) (by simp [cn, (to_yes hJ hb14), (to_yes hJ hb23), (to_yes hJ hb32), (to_yes hJ hb41)] <;> decide) (v := (.int (1 : Int32))) (by simp [gk, cn, (to_yes hJ hb14), (to_yes hJ hb23), (to_yes hJ hb32), (to_yes hJ hb41)] <;> decide) d3_105 ?_
          show Wk _ p l e _ s m _ below meth c n0 _ h42 1 4 (mkF m 106 #[.val (.ref g), .val (.int node), .val (.int p0), .val (.int p1), .val (.int p2), .val (.int p3), .val (.ref b2), .val (.int (4 : Int32))] [(.int (1 : Int32))])
          refine Wk.st (g' := (mkF m 108 #[.val (.ref g), .val (.int node), .val (.int p0), .val (.int p1), .val (.int p2), .val (.int p3), .val (.ref b2), .val (.int (4 : Int32))] [(.ref b2), (.int (1 : Int32))])) (fun X t q => XS.aload X.here C.hx rfl (hb C.hby d3_106) rfl rfl q) ?_
          refine Wk.st (g' := (mkF m 109 #[.val (.ref g), .val (.int node), .val (.int p0), .val (.int p1), .val (.int p2), .val (.int p3), .val (.ref b2), .val (.int (4 : Int32))] [(.int (1 : Int32)), (.ref b2), (.int (1 : Int32))])) (fun X t q => XS.iconst X.here C.hx rfl (hb C.hby d3_108) q) ?_
          refine Wk.fLdI C F44 (i := 1) (by decide) (by decide) (by decide) (v := (.int (1 : Int32))) (by simp [up]) d3_109 ?_
          show Wk _ p l e _ s m _ below meth c n0 _ h42 1 4 (mkF m 110 #[.val (.ref g), .val (.int node), .val (.int p0), .val (.int p1), .val (.int p2), .val (.int p3), .val (.ref b2), .val (.int (4 : Int32))] [(.int (1 : Int32)), (.int (1 : Int32))])
          refine Wk.st (g' := (mkF m 113 #[.val (.ref g), .val (.int node), .val (.int p0), .val (.int p1), .val (.int p2), .val (.int p3), .val (.ref b2), .val (.int (4 : Int32))] [])) (fun X t q => XS.icmpNo X.here C.hx rfl (hb C.hby d3_110) rfl (XT.ii_ne_f (by decide)) q) ?_
          refine Wk.st (g' := (mkF m 115 #[.val (.ref g), .val (.int node), .val (.int p0), .val (.int p1), .val (.int p2), .val (.int p3), .val (.ref b2), .val (.int (4 : Int32))] [(.int (4 : Int32))])) (fun X t q => XS.iload X.here C.hx rfl (hb C.hby d3_113) rfl q) ?_
          refine Wk.st (g' := (mkF m 116 #[.val (.ref g), .val (.int node), .val (.int p0), .val (.int p1), .val (.int p2), .val (.int p3), .val (.ref b2), .val (.int (4 : Int32))] [(.int (3 : Int32)), (.int (4 : Int32))])) (fun X t q => XS.iconst X.here C.hx rfl (hb C.hby d3_115) q) ?_
          refine Wk.st (g' := (mkF m 119 #[.val (.ref g), .val (.int node), .val (.int p0), .val (.int p1), .val (.int p2), .val (.int p3), .val (.ref b2), .val (.int (4 : Int32))] [])) (fun X t q => XS.icmpNo X.here C.hx rfl (hb C.hby d3_116) rfl (XT.ii_lt_f (by decide)) q) ?_
          refine Wk.st (g' := (mkF m 120 #[.val (.ref g), .val (.int node), .val (.int p0), .val (.int p1), .val (.int p2), .val (.int p3), .val (.ref b2), .val (.int (4 : Int32))] [(.ref g)])) (fun X t q => XS.aloadN X.here C.hx rfl (hb C.hby d3_119) rfl rfl q) ?_
          refine Wk.st (g' := (mkF m 121 #[.val (.ref g), .val (.int node), .val (.int p0), .val (.int p1), .val (.int p2), .val (.int p3), .val (.ref b2), .val (.int (4 : Int32))] [(.int (2 : Int32)), (.ref g)])) (fun X t q => XS.iconst X.here C.hx rfl (hb C.hby d3_120) q) ?_
          refine Wk.fLdI C F45 (i := 2) (by decide) (by decide) (by simp [cn, (to_yes hJ hb14), (to_yes hJ hb23), (to_yes hJ hb32), (to_yes hJ hb41)] <;> decide) (v := (.int (2 : Int32))) (by simp [gk, cn, (to_yes hJ hb14), (to_yes hJ hb23), (to_yes hJ hb32), (to_yes hJ hb41)] <;> decide) d3_121 ?_
          show Wk _ p l e _ s m _ below meth c n0 _ h42 1 4 (mkF m 122 #[.val (.ref g), .val (.int node), .val (.int p0), .val (.int p1), .val (.int p2), .val (.int p3), .val (.ref b2), .val (.int (4 : Int32))] [(.int (2 : Int32))])
          refine Wk.st (g' := (mkF m 124 #[.val (.ref g), .val (.int node), .val (.int p0), .val (.int p1), .val (.int p2), .val (.int p3), .val (.ref b2), .val (.int (4 : Int32))] [(.ref b2), (.int (2 : Int32))])) (fun X t q => XS.aload X.here C.hx rfl (hb C.hby d3_122) rfl rfl q) ?_
          refine Wk.st (g' := (mkF m 125 #[.val (.ref g), .val (.int node), .val (.int p0), .val (.int p1), .val (.int p2), .val (.int p3), .val (.ref b2), .val (.int (4 : Int32))] [(.int (2 : Int32)), (.ref b2), (.int (2 : Int32))])) (fun X t q => XS.iconst X.here C.hx rfl (hb C.hby d3_124) q) ?_
          refine Wk.fLdI C F44 (i := 2) (by decide) (by decide) (by decide) (v := (.int (2 : Int32))) (by simp [up]) d3_125 ?_
          show Wk _ p l e _ s m _ below meth c n0 _ h42 1 4 (mkF m 126 #[.val (.ref g), .val (.int node), .val (.int p0), .val (.int p1), .val (.int p2), .val (.int p3), .val (.ref b2), .val (.int (4 : Int32))] [(.int (2 : Int32)), (.int (2 : Int32))])
          refine Wk.st (g' := (mkF m 129 #[.val (.ref g), .val (.int node), .val (.int p0), .val (.int p1), .val (.int p2), .val (.int p3), .val (.ref b2), .val (.int (4 : Int32))] [])) (fun X t q => XS.icmpNo X.here C.hx rfl (hb C.hby d3_126) rfl (XT.ii_ne_f (by decide)) q) ?_
          refine Wk.st (g' := (mkF m 131 #[.val (.ref g), .val (.int node), .val (.int p0), .val (.int p1), .val (.int p2), .val (.int p3), .val (.ref b2), .val (.int (4 : Int32))] [(.int (4 : Int32))])) (fun X t q => XS.iload X.here C.hx rfl (hb C.hby d3_129) rfl q) ?_
          refine Wk.st (g' := (mkF m 132 #[.val (.ref g), .val (.int node), .val (.int p0), .val (.int p1), .val (.int p2), .val (.int p3), .val (.ref b2), .val (.int (4 : Int32))] [(.int (4 : Int32)), (.int (4 : Int32))])) (fun X t q => XS.iconst X.here C.hx rfl (hb C.hby d3_131) q) ?_
          refine Wk.st (g' := (mkF m 135 #[.val (.ref g), .val (.int node), .val (.int p0), .val (.int p1), .val (.int p2), .val (.int p3), .val (.ref b2), .val (.int (4 : Int32))] [])) (fun X t q => XS.icmpNo X.here C.hx rfl (hb C.hby d3_132) rfl (XT.ii_lt_f (by decide)) q) ?_
          refine Wk.st (g' := (mkF m 136 #[.val (.ref g), .val (.int node), .val (.int p0), .val (.int p1), .val (.int p2), .val (.int p3), .val (.ref b2), .val (.int (4 : Int32))] [(.ref g)])) (fun X t q => XS.aloadN X.here C.hx rfl (hb C.hby d3_135) rfl rfl q) ?_
          refine Wk.st (g' := (mkF m 137 #[.val (.ref g), .val (.int node), .val (.int p0), .val (.int p1), .val (.int p2), .val (.int p3), .val (.ref b2), .val (.int (4 : Int32))] [(.int (3 : Int32)), (.ref g)])) (fun X t q => XS.iconst X.here C.hx rfl (hb C.hby d3_136) q) ?_
          refine Wk.fLdI C F45 (i := 3) (by decide) (by decide) (by simp [cn, (to_yes hJ hb14), (to_yes hJ hb23), (to_yes hJ hb32), (to_yes hJ hb41)] <;> decide) (v := (.int (3 : Int32))) (by simp [gk, cn, (to_yes hJ hb14), (to_yes hJ hb23), (to_yes hJ hb32), (to_yes hJ hb41)] <;> decide) d3_137 ?_
          show Wk _ p l e _ s m _ below meth c n0 _ h42 1 4 (mkF m 138 #[.val (.ref g), .val (.int node), .val (.int p0), .val (.int p1), .val (.int p2), .val (.int p3), .val (.ref b2), .val (.int (4 : Int32))] [(.int (3 : Int32))])
          refine Wk.st (g' := (mkF m 140 #[.val (.ref g), .val (.int node), .val (.int p0), .val (.int p1), .val (.int p2), .val (.int p3), .val (.ref b2), .val (.int (4 : Int32))] [(.ref b2), (.int (3 : Int32))])) (fun X t q => XS.aload X.here C.hx rfl (hb C.hby d3_138) rfl rfl q) ?_
          refine Wk.st (g' := (mkF m 141 #[.val (.ref g), .val (.int node), .val (.int p0), .val (.int p1), .val (.int p2), .val (.int p3), .val (.ref b2), .val (.int (4 : Int32))] [(.int (3 : Int32)), (.ref b2), (.int (3 : Int32))])) (fun X t q => XS.iconst X.here C.hx rfl (hb C.hby d3_140) q) ?_
          refine Wk.fLdI C F44 (i := 3) (by decide) (by decide) (by decide) (v := (.int (3 : Int32))) (by simp [up]) d3_141 ?_
          show Wk _ p l e _ s m _ below meth c n0 _ h42 1 4 (mkF m 142 #[.val (.ref g), .val (.int node), .val (.int p0), .val (.int p1), .val (.int p2), .val (.int p3), .val (.ref b2), .val (.int (4 : Int32))] [(.int (3 : Int32)), (.int (3 : Int32))])
          refine Wk.st (g' := (mkF m 145 #[.val (.ref g), .val (.int node), .val (.int p0), .val (.int p1), .val (.int p2), .val (.int p3), .val (.ref b2), .val (.int (4 : Int32))] [])) (fun X t q => XS.icmpNo X.here C.hx rfl (hb C.hby d3_142) rfl (XT.ii_ne_f (by decide)) q) ?_
          refine Wk.st (g' := (mkF m 146 #[.val (.ref g), .val (.int node), .val (.int p0), .val (.int p1), .val (.int p2), .val (.int p3), .val (.ref b2), .val (.int (4 : Int32))] [(.int (1 : Int32))])) (fun X t q => XS.iconst X.here C.hx rfl (hb C.hby d3_145) q) ?_
          refine Wk.st (g' := (mkF m 150 #[.val (.ref g), .val (.int node), .val (.int p0), .val (.int p1), .val (.int p2), .val (.int p3), .val (.ref b2), .val (.int (4 : Int32))] [(.int (1 : Int32))])) (fun X t q => XS.goto X.here C.hx rfl (pc0 := 146) (pc' := 150) rfl (hb C.hby d3_146) (by decide) (by decide) q) ?_
          exact Wk.retV C (t := .boolean) rfl rfl (Or.inl ⟨rfl, by simp, _, rfl⟩) d3_150 (by decide) (by decide) ⟨rfl, K49⟩
        · skip
          refine Wk.st (g' := (mkF m 72 #[.val (.ref g), .val (.int node), .val (.int p0), .val (.int p1), .val (.int p2), .val (.int p3), .val (.ref b2), .val (.int (3 : Int32))] [])) (fun X t q => XS.icmpYes X.here C.hx rfl (pc0 := 60) (pc' := 72) rfl (hb C.hby d3_60) rfl (XT.ii_ne_t hb41) (by decide) (by decide) q) ?_
          refine Wk.st (g' := (mkF m 73 #[.val (.ref g), .val (.int node), .val (.int p0), .val (.int p1), .val (.int p2), .val (.int p3), .val (.ref b2), .val (.int (3 : Int32))] [(.ref g)])) (fun X t q => XS.aloadN X.here C.hx rfl (hb C.hby d3_72) rfl rfl q) ?_
          refine Wk.fLen C F36 (z := (3 : Int32)) (by simp [cn, (to_yes hJ hb14), (to_yes hJ hb23), (to_yes hJ hb32), (to_no hJ hb41)] <;> decide) d3_73 ?_
          show Wk _ p l e _ s m _ below meth c n0 _ h33 1 4 (mkF m 74 #[.val (.ref g), .val (.int node), .val (.int p0), .val (.int p1), .val (.int p2), .val (.int p3), .val (.ref b2), .val (.int (3 : Int32))] [(.int (3 : Int32))])
          refine Wk.st (g' := (mkF m 76 #[.val (.ref g), .val (.int node), .val (.int p0), .val (.int p1), .val (.int p2), .val (.int p3), .val (.ref b2), .val (.int (3 : Int32))] [(.int (3 : Int32)), (.int (3 : Int32))])) (fun X t q => XS.iload X.here C.hx rfl (hb C.hby d3_74) rfl q) ?_
          refine Wk.st (g' := (mkF m 81 #[.val (.ref g), .val (.int node), .val (.int p0), .val (.int p1), .val (.int p2), .val (.int p3), .val (.ref b2), .val (.int (3 : Int32))] [])) (fun X t q => XS.icmpYes X.here C.hx rfl (pc0 := 76) (pc' := 81) rfl (hb C.hby d3_76) rfl (XT.ii_eq_t (by decide)) (by decide) (by decide) q) ?_
          refine Wk.st (g' := (mkF m 83 #[.val (.ref g), .val (.int node), .val (.int p0), .val (.int p1), .val (.int p2), .val (.int p3), .val (.ref b2), .val (.int (3 : Int32))] [(.int (3 : Int32))])) (fun X t q => XS.iload X.here C.hx rfl (hb C.hby d3_81) rfl q) ?_
          refine Wk.st (g' := (mkF m 84 #[.val (.ref g), .val (.int node), .val (.int p0), .val (.int p1), .val (.int p2), .val (.int p3), .val (.ref b2), .val (.int (3 : Int32))] [(.int (1 : Int32)), (.int (3 : Int32))])) (fun X t q => XS.iconst X.here C.hx rfl (hb C.hby d3_83) q) ?_
          refine Wk.st (g' := (mkF m 87 #[.val (.ref g), .val (.int node), .val (.int p0), .val (.int p1), .val (.int p2), .val (.int p3), .val (.ref b2), .val (.int (3 : Int32))] [])) (fun X t q => XS.icmpNo X.here C.hx rfl (hb C.hby d3_84) rfl (XT.ii_lt_f (by decide)) q) ?_
          refine Wk.st (g' := (mkF m 88 #[.val (.ref g), .val (.int node), .val (.int p0), .val (.int p1), .val (.int p2), .val (.int p3), .val (.ref b2), .val (.int (3 : Int32))] [(.ref g)])) (fun X t q => XS.aloadN X.here C.hx rfl (hb C.hby d3_87) rfl rfl q) ?_
          refine Wk.st (g' := (mkF m 89 #[.val (.ref g), .val (.int node), .val (.int p0), .val (.int p1), .val (.int p2), .val (.int p3), .val (.ref b2), .val (.int (3 : Int32))] [(.int (0 : Int32)), (.ref g)])) (fun X t q => XS.iconst X.here C.hx rfl (hb C.hby d3_88) q) ?_
          refine Wk.fLdI C F36 (i := 0) (by decide) (by decide) (by simp [cn, (to_yes hJ hb14), (to_yes hJ hb23), (to_yes hJ hb32), (to_no hJ hb41)] <;> decide) (v := (.int (0 : Int32))) (by simp [gk, cn, (to_yes hJ hb14), (to_yes hJ hb23), (to_yes hJ hb32), (to_no hJ hb41)] <;> decide) d3_89 ?_
          show Wk _ p l e _ s m _ below meth c n0 _ h33 1 4 (mkF m 90 #[.val (.ref g), .val (.int node), .val (.int p0), .val (.int p1), .val (.int p2), .val (.int p3), .val (.ref b2), .val (.int (3 : Int32))] [(.int (0 : Int32))])
          refine Wk.st (g' := (mkF m 92 #[.val (.ref g), .val (.int node), .val (.int p0), .val (.int p1), .val (.int p2), .val (.int p3), .val (.ref b2), .val (.int (3 : Int32))] [(.ref b2), (.int (0 : Int32))])) (fun X t q => XS.aload X.here C.hx rfl (hb C.hby d3_90) rfl rfl q) ?_
          refine Wk.st (g' := (mkF m 93 #[.val (.ref g), .val (.int node), .val (.int p0), .val (.int p1), .val (.int p2), .val (.int p3), .val (.ref b2), .val (.int (3 : Int32))] [(.int (0 : Int32)), (.ref b2), (.int (0 : Int32))])) (fun X t q => XS.iconst X.here C.hx rfl (hb C.hby d3_92) q) ?_
          refine Wk.fLdI C F35 (i := 0) (by decide) (by decide) (by decide) (v := (.int (0 : Int32))) (by simp [up]) d3_93 ?_
          show Wk _ p l e _ s m _ below meth c n0 _ h33 1 4 (mkF m 94 #[.val (.ref g), .val (.int node), .val (.int p0), .val (.int p1), .val (.int p2), .val (.int p3), .val (.ref b2), .val (.int (3 : Int32))] [(.int (0 : Int32)), (.int (0 : Int32))])
          refine Wk.st (g' := (mkF m 97 #[.val (.ref g), .val (.int node), .val (.int p0), .val (.int p1), .val (.int p2), .val (.int p3), .val (.ref b2), .val (.int (3 : Int32))] [])) (fun X t q => XS.icmpNo X.here C.hx rfl (hb C.hby d3_94) rfl (XT.ii_ne_f (by decide)) q) ?_
          refine Wk.st (g' := (mkF m 99 #[.val (.ref g), .val (.int node), .val (.int p0), .val (.int p1), .val (.int p2), .val (.int p3), .val (.ref b2), .val (.int (3 : Int32))] [(.int (3 : Int32))])) (fun X t q => XS.iload X.here C.hx rfl (hb C.hby d3_97) rfl q) ?_
          refine Wk.st (g' := (mkF m 100 #[.val (.ref g), .val (.int node), .val (.int p0), .val (.int p1), .val (.int p2), .val (.int p3), .val (.ref b2), .val (.int (3 : Int32))] [(.int (2 : Int32)), (.int (3 : Int32))])) (fun X t q => XS.iconst X.here C.hx rfl (hb C.hby d3_99) q) ?_
          refine Wk.st (g' := (mkF m 103 #[.val (.ref g), .val (.int node), .val (.int p0), .val (.int p1), .val (.int p2), .val (.int p3), .val (.ref b2), .val (.int (3 : Int32))] [])) (fun X t q => XS.icmpNo X.here C.hx rfl (hb C.hby d3_100) rfl (XT.ii_lt_f (by decide)) q) ?_
          refine Wk.st (g' := (mkF m 104 #[.val (.ref g), .val (.int node), .val (.int p0), .val (.int p1), .val (.int p2), .val (.int p3), .val (.ref b2), .val (.int (3 : Int32))] [(.ref g)])) (fun X t q => XS.aloadN X.here C.hx rfl (hb C.hby d3_103) rfl rfl q) ?_
          refine Wk.st (g' := (mkF m 105 #[.val (.ref g), .val (.int node), .val (.int p0), .val (.int p1), .val (.int p2), .val (.int p3), .val (.ref b2), .val (.int (3 : Int32))] [(.int (1 : Int32)), (.ref g)])) (fun X t q => XS.iconst X.here C.hx rfl (hb C.hby d3_104) q) ?_
          refine Wk.fLdI C F36 (i := 1) (by decide) (by decide) (by simp [cn, (to_yes hJ hb14), (to_yes hJ hb23), (to_yes hJ hb32), (to_no hJ hb41)] <;> decide) (v := (.int (1 : Int32))) (by simp [gk, cn, (to_yes hJ hb14), (to_yes hJ hb23), (to_yes hJ hb32), (to_no hJ hb41)] <;> decide) d3_105 ?_
          show Wk _ p l e _ s m _ below meth c n0 _ h33 1 4 (mkF m 106 #[.val (.ref g), .val (.int node), .val (.int p0), .val (.int p1), .val (.int p2), .val (.int p3), .val (.ref b2), .val (.int (3 : Int32))] [(.int (1 : Int32))])
          refine Wk.st (g' := (mkF m 108 #[.val (.ref g), .val (.int node), .val (.int p0), .val (.int p1), .val (.int p2), .val (.int p3), .val (.ref b2), .val (.int (3 : Int32))] [(.ref b2), (.int (1 : Int32))])) (fun X t q => XS.aload X.here C.hx rfl (hb C.hby d3_106) rfl rfl q) ?_
          refine Wk.st (g' := (mkF m 109 #[.val (.ref g), .val (.int node), .val (.int p0), .val (.int p1), .val (.int p2), .val (.int p3), .val (.ref b2), .val (.int (3 : Int32))] [(.int (1 : Int32)), (.ref b2), (.int (1 : Int32))])) (fun X t q => XS.iconst X.here C.hx rfl (hb C.hby d3_108) q) ?_
          refine Wk.fLdI C F35 (i := 1) (by decide) (by decide) (by decide) (v := (.int (1 : Int32))) (by simp [up]) d3_109 ?_
          show Wk _ p l e _ s m _ below meth c n0 _ h33 1 4 (mkF m 110 #[.val (.ref g), .val (.int node), .val (.int p0), .val (.int p1), .val (.int p2), .val (.int p3), .val (.ref b2), .val (.int (3 : Int32))] [(.int (1 : Int32)), (.int (1 : Int32))])
          refine Wk.st (g' := (mkF m 113 #[.val (.ref g), .val (.int node), .val (.int p0), .val (.int p1), .val (.int p2), .val (.int p3), .val (.ref b2), .val (.int (3 : Int32))] [])) (fun X t q => XS.icmpNo X.here C.hx rfl (hb C.hby d3_110) rfl (XT.ii_ne_f (by decide)) q) ?_
          refine Wk.st (g' := (mkF m 115 #[.val (.ref g), .val (.int node), .val (.int p0), .val (.int p1), .val (.int p2), .val (.int p3), .val (.ref b2), .val (.int (3 : Int32))] [(.int (3 : Int32))])) (fun X t q => XS.iload X.here C.hx rfl (hb C.hby d3_113) rfl q) ?_
          refine Wk.st (g' := (mkF m 116 #[.val (.ref g), .val (.int node), .val (.int p0), .val (.int p1), .val (.int p2), .val (.int p3), .val (.ref b2), .val (.int (3 : Int32))] [(.int (3 : Int32)), (.int (3 : Int32))])) (fun X t q => XS.iconst X.here C.hx rfl (hb C.hby d3_115) q) ?_
          refine Wk.st (g' := (mkF m 119 #[.val (.ref g), .val (.int node), .val (.int p0), .val (.int p1), .val (.int p2), .val (.int p3), .val (.ref b2), .val (.int (3 : Int32))] [])) (fun X t q => XS.icmpNo X.here C.hx rfl (hb C.hby d3_116) rfl (XT.ii_lt_f (by decide)) q) ?_
          refine Wk.st (g' := (mkF m 120 #[.val (.ref g), .val (.int node), .val (.int p0), .val (.int p1), .val (.int p2), .val (.int p3), .val (.ref b2), .val (.int (3 : Int32))] [(.ref g)])) (fun X t q => XS.aloadN X.here C.hx rfl (hb C.hby d3_119) rfl rfl q) ?_
          refine Wk.st (g' := (mkF m 121 #[.val (.ref g), .val (.int node), .val (.int p0), .val (.int p1), .val (.int p2), .val (.int p3), .val (.ref b2), .val (.int (3 : Int32))] [(.int (2 : Int32)), (.ref g)])) (fun X t q => XS.iconst X.here C.hx rfl (hb C.hby d3_120) q) ?_
          refine Wk.fLdI C F36 (i := 2) (by decide) (by decide) (by simp [cn, (to_yes hJ hb14), (to_yes hJ hb23), (to_yes hJ hb32), (to_no hJ hb41)] <;> decide) (v := (.int (2 : Int32))) (by simp [gk, cn, (to_yes hJ hb14), (to_yes hJ hb23), (to_yes hJ hb32), (to_no hJ hb41)] <;> decide) d3_121 ?_
          show Wk _ p l e _ s m _ below meth c n0 _ h33 1 4 (mkF m 122 #[.val (.ref g), .val (.int node), .val (.int p0), .val (.int p1), .val (.int p2), .val (.int p3), .val (.ref b2), .val (.int (3 : Int32))] [(.int (2 : Int32))])
          refine Wk.st (g' := (mkF m 124 #[.val (.ref g), .val (.int node), .val (.int p0), .val (.int p1), .val (.int p2), .val (.int p3), .val (.ref b2), .val (.int (3 : Int32))] [(.ref b2), (.int (2 : Int32))])) (fun X t q => XS.aload X.here C.hx rfl (hb C.hby d3_122) rfl rfl q) ?_
          refine Wk.st (g' := (mkF m 125 #[.val (.ref g), .val (.int node), .val (.int p0), .val (.int p1), .val (.int p2), .val (.int p3), .val (.ref b2), .val (.int (3 : Int32))] [(.int (2 : Int32)), (.ref b2), (.int (2 : Int32))])) (fun X t q => XS.iconst X.here C.hx rfl (hb C.hby d3_124) q) ?_
          refine Wk.fLdI C F35 (i := 2) (by decide) (by decide) (by decide) (v := (.int (2 : Int32))) (by simp [up]) d3_125 ?_
          show Wk _ p l e _ s m _ below meth c n0 _ h33 1 4 (mkF m 126 #[.val (.ref g), .val (.int node), .val (.int p0), .val (.int p1), .val (.int p2), .val (.int p3), .val (.ref b2), .val (.int (3 : Int32))] [(.int (2 : Int32)), (.int (2 : Int32))])
          refine Wk.st (g' := (mkF m 129 #[.val (.ref g), .val (.int node), .val (.int p0), .val (.int p1), .val (.int p2), .val (.int p3), .val (.ref b2), .val (.int (3 : Int32))] [])) (fun X t q => XS.icmpNo X.here C.hx rfl (hb C.hby d3_126) rfl (XT.ii_ne_f (by decide)) q) ?_
          refine Wk.st (g' := (mkF m 131 #[.val (.ref g), .val (.int node), .val (.int p0), .val (.int p1), .val (.int p2), .val (.int p3), .val (.ref b2), .val (.int (3 : Int32))] [(.int (3 : Int32))])) (fun X t q => XS.iload X.here C.hx rfl (hb C.hby d3_129) rfl q) ?_
          refine Wk.st (g' := (mkF m 132 #[.val (.ref g), .val (.int node), .val (.int p0), .val (.int p1), .val (.int p2), .val (.int p3), .val (.ref b2), .val (.int (3 : Int32))] [(.int (4 : Int32)), (.int (3 : Int32))])) (fun X t q => XS.iconst X.here C.hx rfl (hb C.hby d3_131) q) ?_
          refine Wk.st (g' := (mkF m 145 #[.val (.ref g), .val (.int node), .val (.int p0), .val (.int p1), .val (.int p2), .val (.int p3), .val (.ref b2), .val (.int (3 : Int32))] [])) (fun X t q => XS.icmpYes X.here C.hx rfl (pc0 := 132) (pc' := 145) rfl (hb C.hby d3_132) rfl (XT.ii_lt_t (by decide)) (by decide) (by decide) q) ?_
          refine Wk.st (g' := (mkF m 146 #[.val (.ref g), .val (.int node), .val (.int p0), .val (.int p1), .val (.int p2), .val (.int p3), .val (.ref b2), .val (.int (3 : Int32))] [(.int (1 : Int32))])) (fun X t q => XS.iconst X.here C.hx rfl (hb C.hby d3_145) q) ?_
          refine Wk.st (g' := (mkF m 150 #[.val (.ref g), .val (.int node), .val (.int p0), .val (.int p1), .val (.int p2), .val (.int p3), .val (.ref b2), .val (.int (3 : Int32))] [(.int (1 : Int32))])) (fun X t q => XS.goto X.here C.hx rfl (pc0 := 146) (pc' := 150) rfl (hb C.hby d3_146) (by decide) (by decide) q) ?_
          exact Wk.retV C (t := .boolean) rfl rfl (Or.inl ⟨rfl, by simp, _, rfl⟩) d3_150 (by decide) (by decide) ⟨rfl, K40⟩
      · skip
        refine Wk.st (g' := (mkF m 57 #[.val (.ref g), .val (.int node), .val (.int p0), .val (.int p1), .val (.int p2), .val (.int p3), .val (.ref b2), .val (.int (2 : Int32))] [])) (fun X t q => XS.icmpYes X.here C.hx rfl (pc0 := 45) (pc' := 57) rfl (hb C.hby d3_45) rfl (XT.ii_ne_t hb32) (by decide) (by decide) q) ?_
        refine Wk.st (g' := (mkF m 59 #[.val (.ref g), .val (.int node), .val (.int p0), .val (.int p1), .val (.int p2), .val (.int p3), .val (.ref b2), .val (.int (2 : Int32))] [(.int p3)])) (fun X t q => XS.iload X.here C.hx rfl (hb C.hby d3_57) rfl q) ?_
        refine Wk.st (g' := (mkF m 60 #[.val (.ref g), .val (.int node), .val (.int p0), .val (.int p1), .val (.int p2), .val (.int p3), .val (.ref b2), .val (.int (2 : Int32))] [(.int node), (.int p3)])) (fun X t q => XS.iloadN X.here C.hx rfl (hb C.hby d3_59) rfl q) ?_
        by_cases hb50 : p3 = node
        · skip
          refine Wk.st (g' := (mkF m 63 #[.val (.ref g), .val (.int node), .val (.int p0), .val (.int p1), .val (.int p2), .val (.int p3), .val (.ref b2), .val (.int (2 : Int32))] [])) (fun X t q => XS.icmpNo X.here C.hx rfl (hb C.hby d3_60) rfl (XT.ii_ne_f hb50) q) ?_
          refine Wk.st (g' := (mkF m 65 #[.val (.ref g), .val (.int node), .val (.int p0), .val (.int p1), .val (.int p2), .val (.int p3), .val (.ref b2), .val (.int (2 : Int32))] [(.ref b2)])) (fun X t q => XS.aload X.here C.hx rfl (hb C.hby d3_63) rfl rfl q) ?_
          refine Wk.st (g' := (mkF m 67 #[.val (.ref g), .val (.int node), .val (.int p0), .val (.int p1), .val (.int p2), .val (.int p3), .val (.ref b2), .val (.int (2 : Int32))] [(.int (2 : Int32)), (.ref b2)])) (fun X t q => XS.iload X.here C.hx rfl (hb C.hby d3_65) rfl q) ?_
          refine Wk.st (g' := (mkF m 68 #[.val (.ref g), .val (.int node), .val (.int p0), .val (.int p1), .val (.int p2), .val (.int p3), .val (.ref b2), .val (.int (2 : Int32))] [(.int (3 : Int32)), (.int (2 : Int32)), (.ref b2)])) (fun X t q => XS.iconst X.here C.hx rfl (hb C.hby d3_67) q) ?_
          refine Wk.fStI C F26 (i := 2) (by decide) (by decide) (by decide) ge8 d3_68 ?_
          intro h51 W52 F53
          have F54 : Fa Z h51 g .int (cn [p3, p2, p1, p0] J).toNatClampNeg (fun t => (.int (gk [p3, p2, p1, p0] J t))) := F27.other W52 ne7
          have F55 : Exa Z h51 b2 "[I" := F28.wr W52
          have sz56 : n0 ≤ h51.size := Nat.le_trans sz29 (Nat.le_of_eq W52.size.symm)
          have sy57 : h0.size ≤ h51.size := Nat.le_trans sy30 (Nat.le_of_eq W52.size.symm)
          have K58 := K31.wr W52 (Or.inr gz9)
          show Wk _ p l e _ s m _ below meth c n0 _ h51 1 4 (mkF m 69 #[.val (.ref g), .val (.int node), .val (.int p0), .val (.int p1), .val (.int p2), .val (.int p3), .val (.ref b2), .val (.int (2 : Int32))] [])
          refine Wk.st (g' := (mkF m 72 #[.val (.ref g), .val (.int node), .val (.int p0), .val (.int p1), .val (.int p2), .val (.int p3), .val (.ref b2), .val (.int (3 : Int32))] [])) (fun X t q => XS.iinc X.here C.hx rfl (hb C.hby d3_69) rfl (l' := #[.val (.ref g), .val (.int node), .val (.int p0), .val (.int p1), .val (.int p2), .val (.int p3), .val (.ref b2), .val (.int (3 : Int32))]) rfl q) ?_
          refine Wk.st (g' := (mkF m 73 #[.val (.ref g), .val (.int node), .val (.int p0), .val (.int p1), .val (.int p2), .val (.int p3), .val (.ref b2), .val (.int (3 : Int32))] [(.ref g)])) (fun X t q => XS.aloadN X.here C.hx rfl (hb C.hby d3_72) rfl rfl q) ?_
          refine Wk.fLen C F54 (z := (3 : Int32)) (by simp [cn, (to_yes hJ hb14), (to_yes hJ hb23), (to_no hJ hb32), (to_yes hJ hb50)] <;> decide) d3_73 ?_
          show Wk _ p l e _ s m _ below meth c n0 _ h51 1 4 (mkF m 74 #[.val (.ref g), .val (.int node), .val (.int p0), .val (.int p1), .val (.int p2), .val (.int p3), .val (.ref b2), .val (.int (3 : Int32))] [(.int (3 : Int32))])
          refine Wk.st (g' := (mkF m 76 #[.val (.ref g), .val (.int node), .val (.int p0), .val (.int p1), .val (.int p2), .val (.int p3), .val (.ref b2), .val (.int (3 : Int32))] [(.int (3 : Int32)), (.int (3 : Int32))])) (fun X t q => XS.iload X.here C.hx rfl (hb C.hby d3_74) rfl q) ?_
          refine Wk.st (g' := (mkF m 81 #[.val (.ref g), .val (.int node), .val (.int p0), .val (.int p1), .val (.int p2), .val (.int p3), .val (.ref b2), .val (.int (3 : Int32))] [])) (fun X t q => XS.icmpYes X.here C.hx rfl (pc0 := 76) (pc' := 81) rfl (hb C.hby d3_76) rfl (XT.ii_eq_t (by decide)) (by decide) (by decide) q) ?_
          refine Wk.st (g' := (mkF m 83 #[.val (.ref g), .val (.int node), .val (.int p0), .val (.int p1), .val (.int p2), .val (.int p3), .val (.ref b2), .val (.int (3 : Int32))] [(.int (3 : Int32))])) (fun X t q => XS.iload X.here C.hx rfl (hb C.hby d3_81) rfl q) ?_
          refine Wk.st (g' := (mkF m 84 #[.val (.ref g), .val (.int node), .val (.int p0), .val (.int p1), .val (.int p2), .val (.int p3), .val (.ref b2), .val (.int (3 : Int32))] [(.int (1 : Int32)), (.int (3 : Int32))])) (fun X t q => XS.iconst X.here C.hx rfl (hb C.hby d3_83) q) ?_
          refine Wk.st (g' := (mkF m 87 #[.val (.ref g), .val (.int node), .val (.int p0), .val (.int p1), .val (.int p2), .val (.int p3), .val (.ref b2), .val (.int (3 : Int32))] [])) (fun X t q => XS.icmpNo X.here C.hx rfl (hb C.hby d3_84) rfl (XT.ii_lt_f (by decide)) q) ?_
          refine Wk.st (g' := (mkF m 88 #[.val (.ref g), .val (.int node), .val (.int p0), .val (.int p1), .val (.int p2), .val (.int p3), .val (.ref b2), .val (.int (3 : Int32))] [(.ref g)])) (fun X t q => XS.aloadN X.here C.hx rfl (hb C.hby d3_87) rfl rfl q) ?_
          refine Wk.st (g' := (mkF m 89 #[.val (.ref g), .val (.int node), .val (.int p0), .val (.int p1), .val (.int p2), .val (.int p3), .val (.ref b2), .val (.int (3 : Int32))] [(.int (0 : Int32)), (.ref g)])) (fun X t q => XS.iconst X.here C.hx rfl (hb C.hby d3_88) q) ?_
          refine Wk.fLdI C F54 (i := 0) (by decide) (by decide) (by simp [cn, (to_yes hJ hb14), (to_yes hJ hb23), (to_no hJ hb32), (to_yes hJ hb50)] <;> decide) (v := (.int (0 : Int32))) (by simp [gk, cn, (to_yes hJ hb14), (to_yes hJ hb23), (to_no hJ hb32), (to_yes hJ hb50)] <;> decide) d3_89 ?_
          show Wk _ p l e _ s m _ below meth c n0 _ h51 1 4 (mkF m 90 #[.val (.ref g), .val (.int node), .val (.int p0), .val (.int p1), .val (.int p2), .val (.int p3), .val (.ref b2), .val (.int (3 : Int32))] [(.int (0 : Int32))])
          refine Wk.st (g' := (mkF m 92 #[.val (.ref g), .val (.int node), .val (.int p0), .val (.int p1), .val (.int p2), .val (.int p3), .val (.ref b2), .val (.int (3 : Int32))] [(.ref b2), (.int (0 : Int32))])) (fun X t q => XS.aload X.here C.hx rfl (hb C.hby d3_90) rfl rfl q) ?_
          refine Wk.st (g' := (mkF m 93 #[.val (.ref g), .val (.int node), .val (.int p0), .val (.int p1), .val (.int p2), .val (.int p3), .val (.ref b2), .val (.int (3 : Int32))] [(.int (0 : Int32)), (.ref b2), (.int (0 : Int32))])) (fun X t q => XS.iconst X.here C.hx rfl (hb C.hby d3_92) q) ?_
          refine Wk.fLdI C F53 (i := 0) (by decide) (by decide) (by decide) (v := (.int (0 : Int32))) (by simp [up]) d3_93 ?_
          show Wk _ p l e _ s m _ below meth c n0 _ h51 1 4 (mkF m 94 #[.val (.ref g), .val (.int node), .val (.int p0), .val (.int p1), .val (.int p2), .val (.int p3), .val (.ref b2), .val (.int (3 : Int32))] [(.int (0 : Int32)), (.int (0 : Int32))])
          refine Wk.st (g' := (mkF m 97 #[.val (.ref g), .val (.int node), .val (.int p0), .val (.int p1), .val (.int p2), .val (.int p3), .val (.ref b2), .val (.int (3 : Int32))] [])) (fun X t q => XS.icmpNo X.here C.hx rfl (hb C.hby d3_94) rfl (XT.ii_ne_f (by decide)) q) ?_
          refine Wk.st (g' := (mkF m 99 #[.val (.ref g), .val (.int node), .val (.int p0), .val (.int p1), .val (.int p2), .val (.int p3), .val (.ref b2), .val (.int (3 : Int32))] [(.int (3 : Int32))])) (fun X t q => XS.iload X.here C.hx rfl (hb C.hby d3_97) rfl q) ?_
          refine Wk.st (g' := (mkF m 100 #[.val (.ref g), .val (.int node), .val (.int p0), .val (.int p1), .val (.int p2), .val (.int p3), .val (.ref b2), .val (.int (3 : Int32))] [(.int (2 : Int32)), (.int (3 : Int32))])) (fun X t q => XS.iconst X.here C.hx rfl (hb C.hby d3_99) q) ?_
          refine Wk.st (g' := (mkF m 103 #[.val (.ref g), .val (.int node), .val (.int p0), .val (.int p1), .val (.int p2), .val (.int p3), .val (.ref b2), .val (.int (3 : Int32))] [])) (fun X t q => XS.icmpNo X.here C.hx rfl (hb C.hby d3_100) rfl (XT.ii_lt_f (by decide)) q) ?_
          refine Wk.st (g' := (mkF m 104 #[.val (.ref g), .val (.int node), .val (.int p0), .val (.int p1), .val (.int p2), .val (.int p3), .val (.ref b2), .val (.int (3 : Int32))] [(.ref g)])) (fun X t q => XS.aloadN X.here C.hx rfl (hb C.hby d3_103) rfl rfl q) ?_
          refine Wk.st (g' := (mkF m 105 #[.val (.ref g), .val (.int node), .val (.int p0), .val (.int p1), .val (.int p2), .val (.int p3), .val (.ref b2), .val (.int (3 : Int32))] [(.int (1 : Int32)), (.ref g)])) (fun X t q => XS.iconst X.here C.hx rfl (hb C.hby d3_104) q) ?_
          refine Wk.fLdI C F54 (i := 1) (by decide) (by decide) (by simp [cn, (to_yes hJ hb14), (to_yes hJ hb23), (to_no hJ hb32), (to_yes hJ hb50)] <;> decide) (v := (.int (1 : Int32))) (by simp [gk, cn, (to_yes hJ hb14), (to_yes hJ hb23), (to_no hJ hb32), (to_yes hJ hb50)] <;> decide) d3_105 ?_
          show Wk _ p l e _ s m _ below meth c n0 _ h51 1 4 (mkF m 106 #[.val (.ref g), .val (.int node), .val (.int p0), .val (.int p1), .val (.int p2), .val (.int p3), .val (.ref b2), .val (.int (3 : Int32))] [(.int (1 : Int32))])
          refine Wk.st (g' := (mkF m 108 #[.val (.ref g), .val (.int node), .val (.int p0), .val (.int p1), .val (.int p2), .val (.int p3), .val (.ref b2), .val (.int (3 : Int32))] [(.ref b2), (.int (1 : Int32))])) (fun X t q => XS.aload X.here C.hx rfl (hb C.hby d3_106) rfl rfl q) ?_
          refine Wk.st (g' := (mkF m 109 #[.val (.ref g), .val (.int node), .val (.int p0), .val (.int p1), .val (.int p2), .val (.int p3), .val (.ref b2), .val (.int (3 : Int32))] [(.int (1 : Int32)), (.ref b2), (.int (1 : Int32))])) (fun X t q => XS.iconst X.here C.hx rfl (hb C.hby d3_108) q) ?_
          refine Wk.fLdI C F53 (i := 1) (by decide) (by decide) (by decide) (v := (.int (1 : Int32))) (by simp [up]) d3_109 ?_
          show Wk _ p l e _ s m _ below meth c n0 _ h51 1 4 (mkF m 110 #[.val (.ref g), .val (.int node), .val (.int p0), .val (.int p1), .val (.int p2), .val (.int p3), .val (.ref b2), .val (.int (3 : Int32))] [(.int (1 : Int32)), (.int (1 : Int32))])
          refine Wk.st (g' := (mkF m 113 #[.val (.ref g), .val (.int node), .val (.int p0), .val (.int p1), .val (.int p2), .val (.int p3), .val (.ref b2), .val (.int (3 : Int32))] [])) (fun X t q => XS.icmpNo X.here C.hx rfl (hb C.hby d3_110) rfl (XT.ii_ne_f (by decide)) q) ?_
          refine Wk.st (g' := (mkF m 115 #[.val (.ref g), .val (.int node), .val (.int p0), .val (.int p1), .val (.int p2), .val (.int p3), .val (.ref b2), .val (.int (3 : Int32))] [(.int (3 : Int32))])) (fun X t q => XS.iload X.here C.hx rfl (hb C.hby d3_113) rfl q) ?_
          refine Wk.st (g' := (mkF m 116 #[.val (.ref g), .val (.int node), .val (.int p0), .val (.int p1), .val (.int p2), .val (.int p3), .val (.ref b2), .val (.int (3 : Int32))] [(.int (3 : Int32)), (.int (3 : Int32))])) (fun X t q => XS.iconst X.here C.hx rfl (hb C.hby d3_115) q) ?_
          refine Wk.st (g' := (mkF m 119 #[.val (.ref g), .val (.int node), .val (.int p0), .val (.int p1), .val (.int p2), .val (.int p3), .val (.ref b2), .val (.int (3 : Int32))] [])) (fun X t q => XS.icmpNo X.here C.hx rfl (hb C.hby d3_116) rfl (XT.ii_lt_f (by decide)) q) ?_
          refine Wk.st (g' := (mkF m 120 #[.val (.ref g), .val (.int node), .val (.int p0), .val (.int p1), .val (.int p2), .val (.int p3), .val (.ref b2), .val (.int (3 : Int32))] [(.ref g)])) (fun X t q => XS.aloadN X.here C.hx rfl (hb C.hby d3_119) rfl rfl q) ?_
          refine Wk.st (g' := (mkF m 121 #[.val (.ref g), .val (.int node), .val (.int p0), .val (.int p1), .val (.int p2), .val (.int p3), .val (.ref b2), .val (.int (3 : Int32))] [(.int (2 : Int32)), (.ref g)])) (fun X t q => XS.iconst X.here C.hx rfl (hb C.hby d3_120) q) ?_
          refine Wk.fLdI C F54 (i := 2) (by decide) (by decide) (by simp [cn, (to_yes hJ hb14), (to_yes hJ hb23), (to_no hJ hb32), (to_yes hJ hb50)] <;> decide) (v := (.int (3 : Int32))) (by simp [gk, cn, (to_yes hJ hb14), (to_yes hJ hb23), (to_no hJ hb32), (to_yes hJ hb50)] <;> decide) d3_121 ?_
          show Wk _ p l e _ s m _ below meth c n0 _ h51 1 4 (mkF m 122 #[.val (.ref g), .val (.int node), .val (.int p0), .val (.int p1), .val (.int p2), .val (.int p3), .val (.ref b2), .val (.int (3 : Int32))] [(.int (3 : Int32))])
          refine Wk.st (g' := (mkF m 124 #[.val (.ref g), .val (.int node), .val (.int p0), .val (.int p1), .val (.int p2), .val (.int p3), .val (.ref b2), .val (.int (3 : Int32))] [(.ref b2), (.int (3 : Int32))])) (fun X t q => XS.aload X.here C.hx rfl (hb C.hby d3_122) rfl rfl q) ?_
          refine Wk.st (g' := (mkF m 125 #[.val (.ref g), .val (.int node), .val (.int p0), .val (.int p1), .val (.int p2), .val (.int p3), .val (.ref b2), .val (.int (3 : Int32))] [(.int (2 : Int32)), (.ref b2), (.int (3 : Int32))])) (fun X t q => XS.iconst X.here C.hx rfl (hb C.hby d3_124) q) ?_
          refine Wk.fLdI C F53 (i := 2) (by decide) (by decide) (by decide) (v := (.int (3 : Int32))) (by simp [up]) d3_125 ?_
          show Wk _ p l e _ s m _ below meth c n0 _ h51 1 4 (mkF m 126 #[.val (.ref g), .val (.int node), .val (.int p0), .val (.int p1), .val (.int p2), .val (.int p3), .val (.ref b2), .val (.int (3 : Int32))] [(.int (3 : Int32)), (.int (3 : Int32))])
          refine Wk.st (g' := (mkF m 129 #[.val (.ref g), .val (.int node), .val (.int p0), .val (.int p1), .val (.int p2), .val (.int p3), .val (.ref b2), .val (.int (3 : Int32))] [])) (fun X t q => XS.icmpNo X.here C.hx rfl (hb C.hby d3_126) rfl (XT.ii_ne_f (by decide)) q) ?_
          refine Wk.st (g' := (mkF m 131 #[.val (.ref g), .val (.int node), .val (.int p0), .val (.int p1), .val (.int p2), .val (.int p3), .val (.ref b2), .val (.int (3 : Int32))] [(.int (3 : Int32))])) (fun X t q => XS.iload X.here C.hx rfl (hb C.hby d3_129) rfl q) ?_
          refine Wk.st (g' := (mkF m 132 #[.val (.ref g), .val (.int node), .val (.int p0), .val (.int p1), .val (.int p2), .val (.int p3), .val (.ref b2), .val (.int (3 : Int32))] [(.int (4 : Int32)), (.int (3 : Int32))])) (fun X t q => XS.iconst X.here C.hx rfl (hb C.hby d3_131) q) ?_
          refine Wk.st (g' := (mkF m 145 #[.val (.ref g), .val (.int node), .val (.int p0), .val (.int p1), .val (.int p2), .val (.int p3), .val (.ref b2), .val (.int (3 : Int32))] [])) (fun X t q => XS.icmpYes X.here C.hx rfl (pc0 := 132) (pc' := 145) rfl (hb C.hby d3_132) rfl (XT.ii_lt_t (by decide)) (by decide) (by decide) q) ?_
          refine Wk.st (g' := (mkF m 146 #[.val (.ref g), .val (.int node), .val (.int p0), .val (.int p1), .val (.int p2), .val (.int p3), .val (.ref b2), .val (.int (3 : Int32))] [(.int (1 : Int32))])) (fun X t q => XS.iconst X.here C.hx rfl (hb C.hby d3_145) q) ?_
          refine Wk.st (g' := (mkF m 150 #[.val (.ref g), .val (.int node), .val (.int p0), .val (.int p1), .val (.int p2), .val (.int p3), .val (.ref b2), .val (.int (3 : Int32))] [(.int (1 : Int32))])) (fun X t q => XS.goto X.here C.hx rfl (pc0 := 146) (pc' := 150) rfl (hb C.hby d3_146) (by decide) (by decide) q) ?_
          exact Wk.retV C (t := .boolean) rfl rfl (Or.inl ⟨rfl, by simp, _, rfl⟩) d3_150 (by decide) (by decide) ⟨rfl, K58⟩
        · skip
          refine Wk.st (g' := (mkF m 72 #[.val (.ref g), .val (.int node), .val (.int p0), .val (.int p1), .val (.int p2), .val (.int p3), .val (.ref b2), .val (.int (2 : Int32))] [])) (fun X t q => XS.icmpYes X.here C.hx rfl (pc0 := 60) (pc' := 72) rfl (hb C.hby d3_60) rfl (XT.ii_ne_t hb50) (by decide) (by decide) q) ?_
          refine Wk.st (g' := (mkF m 73 #[.val (.ref g), .val (.int node), .val (.int p0), .val (.int p1), .val (.int p2), .val (.int p3), .val (.ref b2), .val (.int (2 : Int32))] [(.ref g)])) (fun X t q => XS.aloadN X.here C.hx rfl (hb C.hby d3_72) rfl rfl q) ?_
          refine Wk.fLen C F27 (z := (2 : Int32)) (by simp [cn, (to_yes hJ hb14), (to_yes hJ hb23), (to_no hJ hb32), (to_no hJ hb50)] <;> decide) d3_73 ?_
          show Wk _ p l e _ s m _ below meth c n0 _ h24 1 4 (mkF m 74 #[.val (.ref g), .val (.int node), .val (.int p0), .val (.int p1), .val (.int p2), .val (.int p3), .val (.ref b2), .val (.int (2 : Int32))] [(.int (2 : Int32))])
          refine Wk.st (g' := (mkF m 76 #[.val (.ref g), .val (.int node), .val (.int p0), .val (.int p1), .val (.int p2), .val (.int p3), .val (.ref b2), .val (.int (2 : Int32))] [(.int (2 : Int32)), (.int (2 : Int32))])) (fun X t q => XS.iload X.here C.hx rfl (hb C.hby d3_74) rfl q) ?_
          refine Wk.st (g' := (mkF m 81 #[.val (.ref g), .val (.int node), .val (.int p0), .val (.int p1), .val (.int p2), .val (.int p3), .val (.ref b2), .val (.int (2 : Int32))] [])) (fun X t q => XS.icmpYes X.here C.hx rfl (pc0 := 76) (pc' := 81) rfl (hb C.hby d3_76) rfl (XT.ii_eq_t (by decide)) (by decide) (by decide) q) ?_
          refine Wk.st (g' := (mkF m 83 #[.val (.ref g), .val (.int node), .val (.int p0), .val (.int p1), .val (.int p2), .val (.int p3), .val (.ref b2), .val (.int (2 : Int32))] [(.int (2 : Int32))])) (fun X t q => XS.iload X.here C.hx rfl (hb C.hby d3_81) rfl q) ?_
          refine Wk.st (g' := (mkF m 84 #[.val (.ref g), .val (.int node), .val (.int p0), .val (.int p1), .val (.int p2), .val (.int p3), .val (.ref b2), .val (.int (2 : Int32))] [(.int (1 : Int32)), (.int (2 : Int32))])) (fun X t q => XS.iconst X.here C.hx rfl (hb C.hby d3_83) q) ?_
          refine Wk.st (g' := (mkF m 87 #[.val (.ref g), .val (.int node), .val (.int p0), .val (.int p1), .val (.int p2), .val (.int p3), .val (.ref b2), .val (.int (2 : Int32))] [])) (fun X t q => XS.icmpNo X.here C.hx rfl (hb C.hby d3_84) rfl (XT.ii_lt_f (by decide)) q) ?_
          refine Wk.st (g' := (mkF m 88 #[.val (.ref g), .val (.int node), .val (.int p0), .val (.int p1), .val (.int p2), .val (.int p3), .val (.ref b2), .val (.int (2 : Int32))] [(.ref g)])) (fun X t q => XS.aloadN X.here C.hx rfl (hb C.hby d3_87) rfl rfl q) ?_
          refine Wk.st (g' := (mkF m 89 #[.val (.ref g), .val (.int node), .val (.int p0), .val (.int p1), .val (.int p2), .val (.int p3), .val (.ref b2), .val (.int (2 : Int32))] [(.int (0 : Int32)), (.ref g)])) (fun X t q => XS.iconst X.here C.hx rfl (hb C.hby d3_88) q) ?_
          refine Wk.fLdI C F27 (i := 0) (by decide) (by decide) (by simp [cn, (to_yes hJ hb14), (to_yes hJ hb23), (to_no hJ hb32), (to_no hJ hb50)] <;> decide) (v := (.int (0 : Int32))) (by simp [gk, cn, (to_yes hJ hb14), (to_yes hJ hb23), (to_no hJ hb32), (to_no hJ hb50)] <;> decide) d3_89 ?_
          show Wk _ p l e _ s m _ below meth c n0 _ h24 1 4 (mkF m 90 #[.val (.ref g), .val (.int node), .val (.int p0), .val (.int p1), .val (.int p2), .val (.int p3), .val (.ref b2), .val (.int (2 : Int32))] [(.int (0 : Int32))])
          refine Wk.st (g' := (mkF m 92 #[.val (.ref g), .val (.int node), .val (.int p0), .val (.int p1), .val (.int p2), .val (.int p3), .val (.ref b2), .val (.int (2 : Int32))] [(.ref b2), (.int (0 : Int32))])) (fun X t q => XS.aload X.here C.hx rfl (hb C.hby d3_90) rfl rfl q) ?_
          refine Wk.st (g' := (mkF m 93 #[.val (.ref g), .val (.int node), .val (.int p0), .val (.int p1), .val (.int p2), .val (.int p3), .val (.ref b2), .val (.int (2 : Int32))] [(.int (0 : Int32)), (.ref b2), (.int (0 : Int32))])) (fun X t q => XS.iconst X.here C.hx rfl (hb C.hby d3_92) q) ?_
          refine Wk.fLdI C F26 (i := 0) (by decide) (by decide) (by decide) (v := (.int (0 : Int32))) (by simp [up]) d3_93 ?_
          show Wk _ p l e _ s m _ below meth c n0 _ h24 1 4 (mkF m 94 #[.val (.ref g), .val (.int node), .val (.int p0), .val (.int p1), .val (.int p2), .val (.int p3), .val (.ref b2), .val (.int (2 : Int32))] [(.int (0 : Int32)), (.int (0 : Int32))])
          refine Wk.st (g' := (mkF m 97 #[.val (.ref g), .val (.int node), .val (.int p0), .val (.int p1), .val (.int p2), .val (.int p3), .val (.ref b2), .val (.int (2 : Int32))] [])) (fun X t q => XS.icmpNo X.here C.hx rfl (hb C.hby d3_94) rfl (XT.ii_ne_f (by decide)) q) ?_
          refine Wk.st (g' := (mkF m 99 #[.val (.ref g), .val (.int node), .val (.int p0), .val (.int p1), .val (.int p2), .val (.int p3), .val (.ref b2), .val (.int (2 : Int32))] [(.int (2 : Int32))])) (fun X t q => XS.iload X.here C.hx rfl (hb C.hby d3_97) rfl q) ?_
          refine Wk.st (g' := (mkF m 100 #[.val (.ref g), .val (.int node), .val (.int p0), .val (.int p1), .val (.int p2), .val (.int p3), .val (.ref b2), .val (.int (2 : Int32))] [(.int (2 : Int32)), (.int (2 : Int32))])) (fun X t q => XS.iconst X.here C.hx rfl (hb C.hby d3_99) q) ?_
          refine Wk.st (g' := (mkF m 103 #[.val (.ref g), .val (.int node), .val (.int p0), .val (.int p1), .val (.int p2), .val (.int p3), .val (.ref b2), .val (.int (2 : Int32))] [])) (fun X t q => XS.icmpNo X.here C.hx rfl (hb C.hby d3_100) rfl (XT.ii_lt_f (by decide)) q) ?_
          refine Wk.st (g' := (mkF m 104 #[.val (.ref g), .val (.int node), .val (.int p0), .val (.int p1), .val (.int p2), .val (.int p3), .val (.ref b2), .val (.int (2 : Int32))] [(.ref g)])) (fun X t q => XS.aloadN X.here C.hx rfl (hb C.hby d3_103) rfl rfl q) ?_
          refine Wk.st (g' := (mkF m 105 #[.val (.ref g), .val (.int node), .val (.int p0), .val (.int p1), .val (.int p2), .val (.int p3), .val (.ref b2), .val (.int (2 : Int32))] [(.int (1 : Int32)), (.ref g)])) (fun X t q => XS.iconst X.here C.hx rfl (hb C.hby d3_104) q) ?_
          refine Wk.fLdI C F27 (i := 1) (by decide) (by decide) (by simp [cn, (to_yes hJ hb14), (to_yes hJ hb23), (to_no hJ hb32), (to_no hJ hb50)] <;> decide) (v := (.int (1 : Int32))) (by simp [gk, cn, (to_yes hJ hb14), (to_yes hJ hb23), (to_no hJ hb32), (to_no hJ hb50)] <;> decide) d3_105 ?_
          show Wk _ p l e _ s m _ below meth c n0 _ h24 1 4 (mkF m 106 #[.val (.ref g), .val (.int node), .val (.int p0), .val (.int p1), .val (.int p2), .val (.int p3), .val (.ref b2), .val (.int (2 : Int32))] [(.int (1 : Int32))])
          refine Wk.st (g' := (mkF m 108 #[.val (.ref g), .val (.int node), .val (.int p0), .val (.int p1), .val (.int p2), .val (.int p3), .val (.ref b2), .val (.int (2 : Int32))] [(.ref b2), (.int (1 : Int32))])) (fun X t q => XS.aload X.here C.hx rfl (hb C.hby d3_106) rfl rfl q) ?_
          refine Wk.st (g' := (mkF m 109 #[.val (.ref g), .val (.int node), .val (.int p0), .val (.int p1), .val (.int p2), .val (.int p3), .val (.ref b2), .val (.int (2 : Int32))] [(.int (1 : Int32)), (.ref b2), (.int (1 : Int32))])) (fun X t q => XS.iconst X.here C.hx rfl (hb C.hby d3_108) q) ?_
          refine Wk.fLdI C F26 (i := 1) (by decide) (by decide) (by decide) (v := (.int (1 : Int32))) (by simp [up]) d3_109 ?_
          show Wk _ p l e _ s m _ below meth c n0 _ h24 1 4 (mkF m 110 #[.val (.ref g), .val (.int node), .val (.int p0), .val (.int p1), .val (.int p2), .val (.int p3), .val (.ref b2), .val (.int (2 : Int32))] [(.int (1 : Int32)), (.int (1 : Int32))])
          refine Wk.st (g' := (mkF m 113 #[.val (.ref g), .val (.int node), .val (.int p0), .val (.int p1), .val (.int p2), .val (.int p3), .val (.ref b2), .val (.int (2 : Int32))] [])) (fun X t q => XS.icmpNo X.here C.hx rfl (hb C.hby d3_110) rfl (XT.ii_ne_f (by decide)) q) ?_
          refine Wk.st (g' := (mkF m 115 #[.val (.ref g), .val (.int node), .val (.int p0), .val (.int p1), .val (.int p2), .val (.int p3), .val (.ref b2), .val (.int (2 : Int32))] [(.int (2 : Int32))])) (fun X t q => XS.iload X.here C.hx rfl (hb C.hby d3_113) rfl q) ?_
          refine Wk.st (g' := (mkF m 116 #[.val (.ref g), .val (.int node), .val (.int p0), .val (.int p1), .val (.int p2), .val (.int p3), .val (.ref b2), .val (.int (2 : Int32))] [(.int (3 : Int32)), (.int (2 : Int32))])) (fun X t q => XS.iconst X.here C.hx rfl (hb C.hby d3_115) q) ?_
          refine Wk.st (g' := (mkF m 129 #[.val (.ref g), .val (.int node), .val (.int p0), .val (.int p1), .val (.int p2), .val (.int p3), .val (.ref b2), .val (.int (2 : Int32))] [])) (fun X t q => XS.icmpYes X.here C.hx rfl (pc0 := 116) (pc' := 129) rfl (hb C.hby d3_116) rfl (XT.ii_lt_t (by decide)) (by decide) (by decide) q) ?_
          refine Wk.st (g' := (mkF m 131 #[.val (.ref g), .val (.int node), .val (.int p0), .val (.int p1), .val (.int p2), .val (.int p3), .val (.ref b2), .val (.int (2 : Int32))] [(.int (2 : Int32))])) (fun X t q => XS.iload X.here C.hx rfl (hb C.hby d3_129) rfl q) ?_
          refine Wk.st (g' := (mkF m 132 #[.val (.ref g), .val (.int node), .val (.int p0), .val (.int p1), .val (.int p2), .val (.int p3), .val (.ref b2), .val (.int (2 : Int32))] [(.int (4 : Int32)), (.int (2 : Int32))])) (fun X t q => XS.iconst X.here C.hx rfl (hb C.hby d3_131) q) ?_
          refine Wk.st (g' := (mkF m 145 #[.val (.ref g), .val (.int node), .val (.int p0), .val (.int p1), .val (.int p2), .val (.int p3), .val (.ref b2), .val (.int (2 : Int32))] [])) (fun X t q => XS.icmpYes X.here C.hx rfl (pc0 := 132) (pc' := 145) rfl (hb C.hby d3_132) rfl (XT.ii_lt_t (by decide)) (by decide) (by decide) q) ?_
          refine Wk.st (g' := (mkF m 146 #[.val (.ref g), .val (.int node), .val (.int p0), .val (.int p1), .val (.int p2), .val (.int p3), .val (.ref b2), .val (.int (2 : Int32))] [(.int (1 : Int32))])) (fun X t q => XS.iconst X.here C.hx rfl (hb C.hby d3_145) q) ?_
          refine Wk.st (g' := (mkF m 150 #[.val (.ref g), .val (.int node), .val (.int p0), .val (.int p1), .val (.int p2), .val (.int p3), .val (.ref b2), .val (.int (2 : Int32))] [(.int (1 : Int32))])) (fun X t q => XS.goto X.here C.hx rfl (pc0 := 146) (pc' := 150) rfl (hb C.hby d3_146) (by decide) (by decide) q) ?_
          exact Wk.retV C (t := .boolean) rfl rfl (Or.inl ⟨rfl, by simp, _, rfl⟩) d3_150 (by decide) (by decide) ⟨rfl, K31⟩
    · skip
      refine Wk.st (g' := (mkF m 42 #[.val (.ref g), .val (.int node), .val (.int p0), .val (.int p1), .val (.int p2), .val (.int p3), .val (.ref b2), .val (.int (1 : Int32))] [])) (fun X t q => XS.icmpYes X.here C.hx rfl (pc0 := 30) (pc' := 42) rfl (hb C.hby d3_30) rfl (XT.ii_ne_t hb23) (by decide) (by decide) q) ?_
      refine Wk.st (g' := (mkF m 44 #[.val (.ref g), .val (.int node), .val (.int p0), .val (.int p1), .val (.int p2), .val (.int p3), .val (.ref b2), .val (.int (1 : Int32))] [(.int p2)])) (fun X t q => XS.iload X.here C.hx rfl (hb C.hby d3_42) rfl q) ?_
      refine Wk.st (g' := (mkF m 45 #[.val (.ref g), .val (.int node), .val (.int p0), .val (.int p1), .val (.int p2), .val (.int p3), .val (.ref b2), .val (.int (1 : Int32))] [(.int node), (.int p2)])) (fun X t q => XS.iloadN X.here C.hx rfl (hb C.hby d3_44) rfl q) ?_
      by_cases hb59 : p2 = node
      · skip
        refine Wk.st (g' := (mkF m 48 #[.val (.ref g), .val (.int node), .val (.int p0), .val (.int p1), .val (.int p2), .val (.int p3), .val (.ref b2), .val (.int (1 : Int32))] [])) (fun X t q => XS.icmpNo X.here C.hx rfl (hb C.hby d3_45) rfl (XT.ii_ne_f hb59) q) ?_
        refine Wk.st (g' := (mkF m 50 #[.val (.ref g), .val (.int node), .val (.int p0), .val (.int p1), .val (.int p2), .val (.int p3), .val (.ref b2), .val (.int (1 : Int32))] [(.ref b2)])) (fun X t q => XS.aload X.here C.hx rfl (hb C.hby d3_48) rfl rfl q) ?_
        refine Wk.st (g' := (mkF m 52 #[.val (.ref g), .val (.int node), .val (.int p0), .val (.int p1), .val (.int p2), .val (.int p3), .val (.ref b2), .val (.int (1 : Int32))] [(.int (1 : Int32)), (.ref b2)])) (fun X t q => XS.iload X.here C.hx rfl (hb C.hby d3_50) rfl q) ?_
        refine Wk.st (g' := (mkF m 53 #[.val (.ref g), .val (.int node), .val (.int p0), .val (.int p1), .val (.int p2), .val (.int p3), .val (.ref b2), .val (.int (1 : Int32))] [(.int (2 : Int32)), (.int (1 : Int32)), (.ref b2)])) (fun X t q => XS.iconst X.here C.hx rfl (hb C.hby d3_52) q) ?_
        refine Wk.fStI C F17 (i := 1) (by decide) (by decide) (by decide) ge8 d3_53 ?_
        intro h60 W61 F62
        have F63 : Fa Z h60 g .int (cn [p3, p2, p1, p0] J).toNatClampNeg (fun t => (.int (gk [p3, p2, p1, p0] J t))) := F18.other W61 ne7
        have F64 : Exa Z h60 b2 "[I" := F19.wr W61
        have sz65 : n0 ≤ h60.size := Nat.le_trans sz20 (Nat.le_of_eq W61.size.symm)
        have sy66 : h0.size ≤ h60.size := Nat.le_trans sy21 (Nat.le_of_eq W61.size.symm)
        have K67 := K22.wr W61 (Or.inr gz9)
        show Wk _ p l e _ s m _ below meth c n0 _ h60 1 4 (mkF m 54 #[.val (.ref g), .val (.int node), .val (.int p0), .val (.int p1), .val (.int p2), .val (.int p3), .val (.ref b2), .val (.int (1 : Int32))] [])
        refine Wk.st (g' := (mkF m 57 #[.val (.ref g), .val (.int node), .val (.int p0), .val (.int p1), .val (.int p2), .val (.int p3), .val (.ref b2), .val (.int (2 : Int32))] [])) (fun X t q => XS.iinc X.here C.hx rfl (hb C.hby d3_54) rfl (l' := #[.val (.ref g), .val (.int node), .val (.int p0), .val (.int p1), .val (.int p2), .val (.int p3), .val (.ref b2), .val (.int (2 : Int32))]) rfl q) ?_
        refine Wk.st (g' := (mkF m 59 #[.val (.ref g), .val (.int node), .val (.int p0), .val (.int p1), .val (.int p2), .val (.int p3), .val (.ref b2), .val (.int (2 : Int32))] [(.int p3)])) (fun X t q => XS.iload X.here C.hx rfl (hb C.hby d3_57) rfl q) ?_
        refine Wk.st (g' := (mkF m 60 #[.val (.ref g), .val (.int node), .val (.int p0), .val (.int p1), .val (.int p2), .val (.int p3), .val (.ref b2), .val (.int (2 : Int32))] [(.int node), (.int p3)])) (fun X t q => XS.iloadN X.here C.hx rfl (hb C.hby d3_59) rfl q) ?_
        by_cases hb68 : p3 = node
        · skip
          refine Wk.st (g' := (mkF m 63 #[.val (.ref g), .val (.int node), .val (.int p0), .val (.int p1), .val (.int p2), .val (.int p3), .val (.ref b2), .val (.int (2 : Int32))] [])) (fun X t q => XS.icmpNo X.here C.hx rfl (hb C.hby d3_60) rfl (XT.ii_ne_f hb68) q) ?_
          refine Wk.st (g' := (mkF m 65 #[.val (.ref g), .val (.int node), .val (.int p0), .val (.int p1), .val (.int p2), .val (.int p3), .val (.ref b2), .val (.int (2 : Int32))] [(.ref b2)])) (fun X t q => XS.aload X.here C.hx rfl (hb C.hby d3_63) rfl rfl q) ?_
          refine Wk.st (g' := (mkF m 67 #[.val (.ref g), .val (.int node), .val (.int p0), .val (.int p1), .val (.int p2), .val (.int p3), .val (.ref b2), .val (.int (2 : Int32))] [(.int (2 : Int32)), (.ref b2)])) (fun X t q => XS.iload X.here C.hx rfl (hb C.hby d3_65) rfl q) ?_
          refine Wk.st (g' := (mkF m 68 #[.val (.ref g), .val (.int node), .val (.int p0), .val (.int p1), .val (.int p2), .val (.int p3), .val (.ref b2), .val (.int (2 : Int32))] [(.int (3 : Int32)), (.int (2 : Int32)), (.ref b2)])) (fun X t q => XS.iconst X.here C.hx rfl (hb C.hby d3_67) q) ?_
          refine Wk.fStI C F62 (i := 2) (by decide) (by decide) (by decide) ge8 d3_68 ?_
          intro h69 W70 F71
          have F72 : Fa Z h69 g .int (cn [p3, p2, p1, p0] J).toNatClampNeg (fun t => (.int (gk [p3, p2, p1, p0] J t))) := F63.other W70 ne7
          have F73 : Exa Z h69 b2 "[I" := F64.wr W70
          have sz74 : n0 ≤ h69.size := Nat.le_trans sz65 (Nat.le_of_eq W70.size.symm)
          have sy75 : h0.size ≤ h69.size := Nat.le_trans sy66 (Nat.le_of_eq W70.size.symm)
          have K76 := K67.wr W70 (Or.inr gz9)
          show Wk _ p l e _ s m _ below meth c n0 _ h69 1 4 (mkF m 69 #[.val (.ref g), .val (.int node), .val (.int p0), .val (.int p1), .val (.int p2), .val (.int p3), .val (.ref b2), .val (.int (2 : Int32))] [])
          refine Wk.st (g' := (mkF m 72 #[.val (.ref g), .val (.int node), .val (.int p0), .val (.int p1), .val (.int p2), .val (.int p3), .val (.ref b2), .val (.int (3 : Int32))] [])) (fun X t q => XS.iinc X.here C.hx rfl (hb C.hby d3_69) rfl (l' := #[.val (.ref g), .val (.int node), .val (.int p0), .val (.int p1), .val (.int p2), .val (.int p3), .val (.ref b2), .val (.int (3 : Int32))]) rfl q) ?_
          refine Wk.st (g' := (mkF m 73 #[.val (.ref g), .val (.int node), .val (.int p0), .val (.int p1), .val (.int p2), .val (.int p3), .val (.ref b2), .val (.int (3 : Int32))] [(.ref g)])) (fun X t q => XS.aloadN X.here C.hx rfl (hb C.hby d3_72) rfl rfl q) ?_
          refine Wk.fLen C F72 (z := (3 : Int32)) (by simp [cn, (to_yes hJ hb14), (to_no hJ hb23), (to_yes hJ hb59), (to_yes hJ hb68)] <;> decide) d3_73 ?_
          show Wk _ p l e _ s m _ below meth c n0 _ h69 1 4 (mkF m 74 #[.val (.ref g), .val (.int node), .val (.int p0), .val (.int p1), .val (.int p2), .val (.int p3), .val (.ref b2), .val (.int (3 : Int32))] [(.int (3 : Int32))])
          refine Wk.st (g' := (mkF m 76 #[.val (.ref g), .val (.int node), .val (.int p0), .val (.int p1), .val (.int p2), .val (.int p3), .val (.ref b2), .val (.int (3 : Int32))] [(.int (3 : Int32)), (.int (3 : Int32))])) (fun X t q => XS.iload X.here C.hx rfl (hb C.hby d3_74) rfl q) ?_
          refine Wk.st (g' := (mkF m 81 #[.val (.ref g), .val (.int node), .val (.int p0), .val (.int p1), .val (.int p2), .val (.int p3), .val (.ref b2), .val (.int (3 : Int32))] [])) (fun X t q => XS.icmpYes X.here C.hx rfl (pc0 := 76) (pc' := 81) rfl (hb C.hby d3_76) rfl (XT.ii_eq_t (by decide)) (by decide) (by decide) q) ?_
          refine Wk.st (g' := (mkF m 83 #[.val (.ref g), .val (.int node), .val (.int p0), .val (.int p1), .val (.int p2), .val (.int p3), .val (.ref b2), .val (.int (3 : Int32))] [(.int (3 : Int32))])) (fun X t q => XS.iload X.here C.hx rfl (hb C.hby d3_81) rfl q) ?_
          refine Wk.st (g' := (mkF m 84 #[.val (.ref g), .val (.int node), .val (.int p0), .val (.int p1), .val (.int p2), .val (.int p3), .val (.ref b2), .val (.int (3 : Int32))] [(.int (1 : Int32)), (.int (3 : Int32))])) (fun X t q => XS.iconst X.here C.hx rfl (hb C.hby d3_83) q) ?_
          refine Wk.st (g' := (mkF m 87 #[.val (.ref g), .val (.int node), .val (.int p0), .val (.int p1), .val (.int p2), .val (.int p3), .val (.ref b2), .val (.int (3 : Int32))] [])) (fun X t q => XS.icmpNo X.here C.hx rfl (hb C.hby d3_84) rfl (XT.ii_lt_f (by decide)) q) ?_
          refine Wk.st (g' := (mkF m 88 #[.val (.ref g), .val (.int node), .val (.int p0), .val (.int p1), .val (.int p2), .val (.int p3), .val (.ref b2), .val (.int (3 : Int32))] [(.ref g)])) (fun X t q => XS.aloadN X.here C.hx rfl (hb C.hby d3_87) rfl rfl q) ?_
          refine Wk.st (g' := (mkF m 89 #[.val (.ref g), .val (.int node), .val (.int p0), .val (.int p1), .val (.int p2), .val (.int p3), .val (.ref b2), .val (.int (3 : Int32))] [(.int (0 : Int32)), (.ref g)])) (fun X t q => XS.iconst X.here C.hx rfl (hb C.hby d3_88) q) ?_
          refine Wk.fLdI C F72 (i := 0) (by decide) (by decide) (by simp [cn, (to_yes hJ hb14), (to_no hJ hb23), (to_yes hJ hb59), (to_yes hJ hb68)] <;> decide) (v := (.int (0 : Int32))) (by simp [gk, cn, (to_yes hJ hb14), (to_no hJ hb23), (to_yes hJ hb59), (to_yes hJ hb68)] <;> decide) d3_89 ?_
          show Wk _ p l e _ s m _ below meth c n0 _ h69 1 4 (mkF m 90 #[.val (.ref g), .val (.int node), .val (.int p0), .val (.int p1), .val (.int p2), .val (.int p3), .val (.ref b2), .val (.int (3 : Int32))] [(.int (0 : Int32))])
          refine Wk.st (g' := (mkF m 92 #[.val (.ref g), .val (.int node), .val (.int p0), .val (.int p1), .val (.int p2), .val (.int p3), .val (.ref b2), .val (.int (3 : Int32))] [(.ref b2), (.int (0 : Int32))])) (fun X t q => XS.aload X.here C.hx rfl (hb C.hby d3_90) rfl rfl q) ?_
          refine Wk.st (g' := (mkF m 93 #[.val (.ref g), .val (.int node), .val (.int p0), .val (.int p1), .val (.int p2), .val (.int p3), .val (.ref b2), .val (.int (3 : Int32))] [(.int (0 : Int32)), (.ref b2), (.int (0 : Int32))])) (fun X t q => XS.iconst X.here C.hx rfl (hb C.hby d3_92) q) ?_
          refine Wk.fLdI C F71 (i := 0) (by decide) (by decide) (by decide) (v := (.int (0 : Int32))) (by simp [up]) d3_93 ?_
          show Wk _ p l e _ s m _ below meth c n0 _ h69 1 4 (mkF m 94 #[.val (.ref g), .val (.int node), .val (.int p0), .val (.int p1), .val (.int p2), .val (.int p3), .val (.ref b2), .val (.int (3 : Int32))] [(.int (0 : Int32)), (.int (0 : Int32))])
          refine Wk.st (g' := (mkF m 97 #[.val (.ref g), .val (.int node), .val (.int p0), .val (.int p1), .val (.int p2), .val (.int p3), .val (.ref b2), .val (.int (3 : Int32))] [])) (fun X t q => XS.icmpNo X.here C.hx rfl (hb C.hby d3_94) rfl (XT.ii_ne_f (by decide)) q) ?_
          refine Wk.st (g' := (mkF m 99 #[.val (.ref g), .val (.int node), .val (.int p0), .val (.int p1), .val (.int p2), .val (.int p3), .val (.ref b2), .val (.int (3 : Int32))] [(.int (3 : Int32))])) (fun X t q => XS.iload X.here C.hx rfl (hb C.hby d3_97) rfl q) ?_
          refine Wk.st (g' := (mkF m 100 #[.val (.ref g), .val (.int node), .val (.int p0), .val (.int p1), .val (.int p2), .val (.int p3), .val (.ref b2), .val (.int (3 : Int32))] [(.int (2 : Int32)), (.int (3 : Int32))])) (fun X t q => XS.iconst X.here C.hx rfl (hb C.hby d3_99) q) ?_
          refine Wk.st (g' := (mkF m 103 #[.val (.ref g), .val (.int node), .val (.int p0), .val (.int p1), .val (.int p2), .val (.int p3), .val (.ref b2), .val (.int (3 : Int32))] [])) (fun X t q => XS.icmpNo X.here C.hx rfl (hb C.hby d3_100) rfl (XT.ii_lt_f (by decide)) q) ?_
          refine Wk.st (g' := (mkF m 104 #[.val (.ref g), .val (.int node), .val (.int p0), .val (.int p1), .val (.int p2), .val (.int p3), .val (.ref b2), .val (.int (3 : Int32))] [(.ref g)])) (fun X t q => XS.aloadN X.here C.hx rfl (hb C.hby d3_103) rfl rfl q) ?_
          refine Wk.st (g' := (mkF m 105 #[.val (.ref g), .val (.int node), .val (.int p0), .val (.int p1), .val (.int p2), .val (.int p3), .val (.ref b2), .val (.int (3 : Int32))] [(.int (1 : Int32)), (.ref g)])) (fun X t q => XS.iconst X.here C.hx rfl (hb C.hby d3_104) q) ?_
          refine Wk.fLdI C F72 (i := 1) (by decide) (by decide) (by simp [cn, (to_yes hJ hb14), (to_no hJ hb23), (to_yes hJ hb59), (to_yes hJ hb68)] <;> decide) (v := (.int (2 : Int32))) (by simp [gk, cn, (to_yes hJ hb14), (to_no hJ hb23), (to_yes hJ hb59), (to_yes hJ hb68)] <;> decide) d3_105 ?_
          show Wk _ p l e _ s m _ below meth c n0 _ h69 1 4 (mkF m 106 #[.val (.ref g), .val (.int node), .val (.int p0), .val (.int p1), .val (.int p2), .val (.int p3), .val (.ref b2), .val (.int (3 : Int32))] [(.int (2 : Int32))])
          refine Wk.st (g' := (mkF m 108 #[.val (.ref g), .val (.int node), .val (.int p0), .val (.int p1), .val (.int p2), .val (.int p3), .val (.ref b2), .val (.int (3 : Int32))] [(.ref b2), (.int (2 : Int32))])) (fun X t q => XS.aload X.here C.hx rfl (hb C.hby d3_106) rfl rfl q) ?_
          refine Wk.st (g' := (mkF m 109 #[.val (.ref g), .val (.int node), .val (.int p0), .val (.int p1), .val (.int p2), .val (.int p3), .val (.ref b2), .val (.int (3 : Int32))] [(.int (1 : Int32)), (.ref b2), (.int (2 : Int32))])) (fun X t q => XS.iconst X.here C.hx rfl (hb C.hby d3_108) q) ?_
          refine Wk.fLdI C F71 (i := 1) (by decide) (by decide) (by decide) (v := (.int (2 : Int32))) (by simp [up]) d3_109 ?_
          show Wk _ p l e _ s m _ below meth c n0 _ h69 1 4 (mkF m 110 #[.val (.ref g), .val (.int node), .val (.int p0), .val (.int p1), .val (.int p2), .val (.int p3), .val (.ref b2), .val (.int (3 : Int32))] [(.int (2 : Int32)), (.int (2 : Int32))])
          refine Wk.st (g' := (mkF m 113 #[.val (.ref g), .val (.int node), .val (.int p0), .val (.int p1), .val (.int p2), .val (.int p3), .val (.ref b2), .val (.int (3 : Int32))] [])) (fun X t q => XS.icmpNo X.here C.hx rfl (hb C.hby d3_110) rfl (XT.ii_ne_f (by decide)) q) ?_
          refine Wk.st (g' := (mkF m 115 #[.val (.ref g), .val (.int node), .val (.int p0), .val (.int p1), .val (.int p2), .val (.int p3), .val (.ref b2), .val (.int (3 : Int32))] [(.int (3 : Int32))])) (fun X t q => XS.iload X.here C.hx rfl (hb C.hby d3_113) rfl q) ?_
          refine Wk.st (g' := (mkF m 116 #[.val (.ref g), .val (.int node), .val (.int p0), .val (.int p1), .val (.int p2), .val (.int p3), .val (.ref b2), .val (.int (3 : Int32))] [(.int (3 : Int32)), (.int (3 : Int32))])) (fun X t q => XS.iconst X.here C.hx rfl (hb C.hby d3_115) q) ?_
          refine Wk.st (g' := (mkF m 119 #[.val (.ref g), .val (.int node), .val (.int p0), .val (.int p1), .val (.int p2), .val (.int p3), .val (.ref b2), .val (.int (3 : Int32))] [])) (fun X t q => XS.icmpNo X.here C.hx rfl (hb C.hby d3_116) rfl (XT.ii_lt_f (by decide)) q) ?_
          refine Wk.st (g' := (mkF m 120 #[.val (.ref g), .val (.int node), .val (.int p0), .val (.int p1), .val (.int p2), .val (.int p3), .val (.ref b2), .val (.int (3 : Int32))] [(.ref g)])) (fun X t q => XS.aloadN X.here C.hx rfl (hb C.hby d3_119) rfl rfl q) ?_
          refine Wk.st (g' := (mkF m 121 #[.val (.ref g), .val (.int node), .val (.int p0), .val (.int p1), .val (.int p2), .val (.int p3), .val (.ref b2), .val (.int (3 : Int32))] [(.int (2 : Int32)), (.ref g)])) (fun X t q => XS.iconst X.here C.hx rfl (hb C.hby d3_120) q) ?_
          refine Wk.fLdI C F72 (i := 2) (by decide) (by decide) (by simp [cn, (to_yes hJ hb14), (to_no hJ hb23), (to_yes hJ hb59), (to_yes hJ hb68)] <;> decide) (v := (.int (3 : Int32))) (by simp [gk, cn, (to_yes hJ hb14), (to_no hJ hb23), (to_yes hJ hb59), (to_yes hJ hb68)] <;> decide) d3_121 ?_
          show Wk _ p l e _ s m _ below meth c n0 _ h69 1 4 (mkF m 122 #[.val (.ref g), .val (.int node), .val (.int p0), .val (.int p1), .val (.int p2), .val (.int p3), .val (.ref b2), .val (.int (3 : Int32))] [(.int (3 : Int32))])
          refine Wk.st (g' := (mkF m 124 #[.val (.ref g), .val (.int node), .val (.int p0), .val (.int p1), .val (.int p2), .val (.int p3), .val (.ref b2), .val (.int (3 : Int32))] [(.ref b2), (.int (3 : Int32))])) (fun X t q => XS.aload X.here C.hx rfl (hb C.hby d3_122) rfl rfl q) ?_
          refine Wk.st (g' := (mkF m 125 #[.val (.ref g), .val (.int node), .val (.int p0), .val (.int p1), .val (.int p2), .val (.int p3), .val (.ref b2), .val (.int (3 : Int32))] [(.int (2 : Int32)), (.ref b2), (.int (3 : Int32))])) (fun X t q => XS.iconst X.here C.hx rfl (hb C.hby d3_124) q) ?_
          refine Wk.fLdI C F71 (i := 2) (by decide) (by decide) (by decide) (v := (.int (3 : Int32))) (by simp [up]) d3_125 ?_
          show Wk _ p l e _ s m _ below meth c n0 _ h69 1 4 (mkF m 126 #[.val (.ref g), .val (.int node), .val (.int p0), .val (.int p1), .val (.int p2), .val (.int p3), .val (.ref b2), .val (.int (3 : Int32))] [(.int (3 : Int32)), (.int (3 : Int32))])
          refine Wk.st (g' := (mkF m 129 #[.val (.ref g), .val (.int node), .val (.int p0), .val (.int p1), .val (.int p2), .val (.int p3), .val (.ref b2), .val (.int (3 : Int32))] [])) (fun X t q => XS.icmpNo X.here C.hx rfl (hb C.hby d3_126) rfl (XT.ii_ne_f (by decide)) q) ?_
          refine Wk.st (g' := (mkF m 131 #[.val (.ref g), .val (.int node), .val (.int p0), .val (.int p1), .val (.int p2), .val (.int p3), .val (.ref b2), .val (.int (3 : Int32))] [(.int (3 : Int32))])) (fun X t q => XS.iload X.here C.hx rfl (hb C.hby d3_129) rfl q) ?_
          refine Wk.st (g' := (mkF m 132 #[.val (.ref g), .val (.int node), .val (.int p0), .val (.int p1), .val (.int p2), .val (.int p3), .val (.ref b2), .val (.int (3 : Int32))] [(.int (4 : Int32)), (.int (3 : Int32))])) (fun X t q => XS.iconst X.here C.hx rfl (hb C.hby d3_131) q) ?_
          refine Wk.st (g' := (mkF m 145 #[.val (.ref g), .val (.int node), .val (.int p0), .val (.int p1), .val (.int p2), .val (.int p3), .val (.ref b2), .val (.int (3 : Int32))] [])) (fun X t q => XS.icmpYes X.here C.hx rfl (pc0 := 132) (pc' := 145) rfl (hb C.hby d3_132) rfl (XT.ii_lt_t (by decide)) (by decide) (by decide) q) ?_
          refine Wk.st (g' := (mkF m 146 #[.val (.ref g), .val (.int node), .val (.int p0), .val (.int p1), .val (.int p2), .val (.int p3), .val (.ref b2), .val (.int (3 : Int32))] [(.int (1 : Int32))])) (fun X t q => XS.iconst X.here C.hx rfl (hb C.hby d3_145) q) ?_
          refine Wk.st (g' := (mkF m 150 #[.val (.ref g), .val (.int node), .val (.int p0), .val (.int p1), .val (.int p2), .val (.int p3), .val (.ref b2), .val (.int (3 : Int32))] [(.int (1 : Int32))])) (fun X t q => XS.goto X.here C.hx rfl (pc0 := 146) (pc' := 150) rfl (hb C.hby d3_146) (by decide) (by decide) q) ?_
          exact Wk.retV C (t := .boolean) rfl rfl (Or.inl ⟨rfl, by simp, _, rfl⟩) d3_150 (by decide) (by decide) ⟨rfl, K76⟩
        · skip
          refine Wk.st (g' := (mkF m 72 #[.val (.ref g), .val (.int node), .val (.int p0), .val (.int p1), .val (.int p2), .val (.int p3), .val (.ref b2), .val (.int (2 : Int32))] [])) (fun X t q => XS.icmpYes X.here C.hx rfl (pc0 := 60) (pc' := 72) rfl (hb C.hby d3_60) rfl (XT.ii_ne_t hb68) (by decide) (by decide) q) ?_
          refine Wk.st (g' := (mkF m 73 #[.val (.ref g), .val (.int node), .val (.int p0), .val (.int p1), .val (.int p2), .val (.int p3), .val (.ref b2), .val (.int (2 : Int32))] [(.ref g)])) (fun X t q => XS.aloadN X.here C.hx rfl (hb C.hby d3_72) rfl rfl q) ?_
          refine Wk.fLen C F63 (z := (2 : Int32)) (by simp [cn, (to_yes hJ hb14), (to_no hJ hb23), (to_yes hJ hb59), (to_no hJ hb68)] <;> decide) d3_73 ?_
          show Wk _ p l e _ s m _ below meth c n0 _ h60 1 4 (mkF m 74 #[.val (.ref g), .val (.int node), .val (.int p0), .val (.int p1), .val (.int p2), .val (.int p3), .val (.ref b2), .val (.int (2 : Int32))] [(.int (2 : Int32))])
          refine Wk.st (g' := (mkF m 76 #[.val (.ref g), .val (.int node), .val (.int p0), .val (.int p1), .val (.int p2), .val (.int p3), .val (.ref b2), .val (.int (2 : Int32))] [(.int (2 : Int32)), (.int (2 : Int32))])) (fun X t q => XS.iload X.here C.hx rfl (hb C.hby d3_74) rfl q) ?_
          refine Wk.st (g' := (mkF m 81 #[.val (.ref g), .val (.int node), .val (.int p0), .val (.int p1), .val (.int p2), .val (.int p3), .val (.ref b2), .val (.int (2 : Int32))] [])) (fun X t q => XS.icmpYes X.here C.hx rfl (pc0 := 76) (pc' := 81) rfl (hb C.hby d3_76) rfl (XT.ii_eq_t (by decide)) (by decide) (by decide) q) ?_
          refine Wk.st (g' := (mkF m 83 #[.val (.ref g), .val (.int node), .val (.int p0), .val (.int p1), .val (.int p2), .val (.int p3), .val (.ref b2), .val (.int (2 : Int32))] [(.int (2 : Int32))])) (fun X t q => XS.iload X.here C.hx rfl (hb C.hby d3_81) rfl q) ?_
          refine Wk.st (g' := (mkF m 84 #[.val (.ref g), .val (.int node), .val (.int p0), .val (.int p1), .val (.int p2), .val (.int p3), .val (.ref b2), .val (.int (2 : Int32))] [(.int (1 : Int32)), (.int (2 : Int32))])) (fun X t q => XS.iconst X.here C.hx rfl (hb C.hby d3_83) q) ?_
          refine Wk.st (g' := (mkF m 87 #[.val (.ref g), .val (.int node), .val (.int p0), .val (.int p1), .val (.int p2), .val (.int p3), .val (.ref b2), .val (.int (2 : Int32))] [])) (fun X t q => XS.icmpNo X.here C.hx rfl (hb C.hby d3_84) rfl (XT.ii_lt_f (by decide)) q) ?_
          refine Wk.st (g' := (mkF m 88 #[.val (.ref g), .val (.int node), .val (.int p0), .val (.int p1), .val (.int p2), .val (.int p3), .val (.ref b2), .val (.int (2 : Int32))] [(.ref g)])) (fun X t q => XS.aloadN X.here C.hx rfl (hb C.hby d3_87) rfl rfl q) ?_
          refine Wk.st (g' := (mkF m 89 #[.val (.ref g), .val (.int node), .val (.int p0), .val (.int p1), .val (.int p2), .val (.int p3), .val (.ref b2), .val (.int (2 : Int32))] [(.int (0 : Int32)), (.ref g)])) (fun X t q => XS.iconst X.here C.hx rfl (hb C.hby d3_88) q) ?_
          refine Wk.fLdI C F63 (i := 0) (by decide) (by decide) (by simp [cn, (to_yes hJ hb14), (to_no hJ hb23), (to_yes hJ hb59), (to_no hJ hb68)] <;> decide) (v := (.int (0 : Int32))) (by simp [gk, cn, (to_yes hJ hb14), (to_no hJ hb23), (to_yes hJ hb59), (to_no hJ hb68)] <;> decide) d3_89 ?_
          show Wk _ p l e _ s m _ below meth c n0 _ h60 1 4 (mkF m 90 #[.val (.ref g), .val (.int node), .val (.int p0), .val (.int p1), .val (.int p2), .val (.int p3), .val (.ref b2), .val (.int (2 : Int32))] [(.int (0 : Int32))])
          refine Wk.st (g' := (mkF m 92 #[.val (.ref g), .val (.int node), .val (.int p0), .val (.int p1), .val (.int p2), .val (.int p3), .val (.ref b2), .val (.int (2 : Int32))] [(.ref b2), (.int (0 : Int32))])) (fun X t q => XS.aload X.here C.hx rfl (hb C.hby d3_90) rfl rfl q) ?_
          refine Wk.st (g' := (mkF m 93 #[.val (.ref g), .val (.int node), .val (.int p0), .val (.int p1), .val (.int p2), .val (.int p3), .val (.ref b2), .val (.int (2 : Int32))] [(.int (0 : Int32)), (.ref b2), (.int (0 : Int32))])) (fun X t q => XS.iconst X.here C.hx rfl (hb C.hby d3_92) q) ?_
          refine Wk.fLdI C F62 (i := 0) (by decide) (by decide) (by decide) (v := (.int (0 : Int32))) (by simp [up]) d3_93 ?_
          show Wk _ p l e _ s m _ below meth c n0 _ h60 1 4 (mkF m 94 #[.val (.ref g), .val (.int node), .val (.int p0), .val (.int p1), .val (.int p2), .val (.int p3), .val (.ref b2), .val (.int (2 : Int32))] [(.int (0 : Int32)), (.int (0 : Int32))])
          refine Wk.st (g' := (mkF m 97 #[.val (.ref g), .val (.int node), .val (.int p0), .val (.int p1), .val (.int p2), .val (.int p3), .val (.ref b2), .val (.int (2 : Int32))] [])) (fun X t q => XS.icmpNo X.here C.hx rfl (hb C.hby d3_94) rfl (XT.ii_ne_f (by decide)) q) ?_
          refine Wk.st (g' := (mkF m 99 #[.val (.ref g), .val (.int node), .val (.int p0), .val (.int p1), .val (.int p2), .val (.int p3), .val (.ref b2), .val (.int (2 : Int32))] [(.int (2 : Int32))])) (fun X t q => XS.iload X.here C.hx rfl (hb C.hby d3_97) rfl q) ?_
          refine Wk.st (g' := (mkF m 100 #[.val (.ref g), .val (.int node), .val (.int p0), .val (.int p1), .val (.int p2), .val (.int p3), .val (.ref b2), .val (.int (2 : Int32))] [(.int (2 : Int32)), (.int (2 : Int32))])) (fun X t q => XS.iconst X.here C.hx rfl (hb C.hby d3_99) q) ?_
          refine Wk.st (g' := (mkF m 103 #[.val (.ref g), .val (.int node), .val (.int p0), .val (.int p1), .val (.int p2), .val (.int p3), .val (.ref b2), .val (.int (2 : Int32))] [])) (fun X t q => XS.icmpNo X.here C.hx rfl (hb C.hby d3_100) rfl (XT.ii_lt_f (by decide)) q) ?_
          refine Wk.st (g' := (mkF m 104 #[.val (.ref g), .val (.int node), .val (.int p0), .val (.int p1), .val (.int p2), .val (.int p3), .val (.ref b2), .val (.int (2 : Int32))] [(.ref g)])) (fun X t q => XS.aloadN X.here C.hx rfl (hb C.hby d3_103) rfl rfl q) ?_
          refine Wk.st (g' := (mkF m 105 #[.val (.ref g), .val (.int node), .val (.int p0), .val (.int p1), .val (.int p2), .val (.int p3), .val (.ref b2), .val (.int (2 : Int32))] [(.int (1 : Int32)), (.ref g)])) (fun X t q => XS.iconst X.here C.hx rfl (hb C.hby d3_104) q) ?_
          refine Wk.fLdI C F63 (i := 1) (by decide) (by decide) (by simp [cn, (to_yes hJ hb14), (to_no hJ hb23), (to_yes hJ hb59), (to_no hJ hb68)] <;> decide) (v := (.int (2 : Int32))) (by simp [gk, cn, (to_yes hJ hb14), (to_no hJ hb23), (to_yes hJ hb59), (to_no hJ hb68)] <;> decide) d3_105 ?_
          show Wk _ p l e _ s m _ below meth c n0 _ h60 1 4 (mkF m 106 #[.val (.ref g), .val (.int node), .val (.int p0), .val (.int p1), .val (.int p2), .val (.int p3), .val (.ref b2), .val (.int (2 : Int32))] [(.int (2 : Int32))])
          refine Wk.st (g' := (mkF m 108 #[.val (.ref g), .val (.int node), .val (.int p0), .val (.int p1), .val (.int p2), .val (.int p3), .val (.ref b2), .val (.int (2 : Int32))] [(.ref b2), (.int (2 : Int32))])) (fun X t q => XS.aload X.here C.hx rfl (hb C.hby d3_106) rfl rfl q) ?_
          refine Wk.st (g' := (mkF m 109 #[.val (.ref g), .val (.int node), .val (.int p0), .val (.int p1), .val (.int p2), .val (.int p3), .val (.ref b2), .val (.int (2 : Int32))] [(.int (1 : Int32)), (.ref b2), (.int (2 : Int32))])) (fun X t q => XS.iconst X.here C.hx rfl (hb C.hby d3_108) q) ?_
          refine Wk.fLdI C F62 (i := 1) (by decide) (by decide) (by decide) (v := (.int (2 : Int32))) (by simp [up]) d3_109 ?_
          show Wk _ p l e _ s m _ below meth c n0 _ h60 1 4 (mkF m 110 #[.val (.ref g), .val (.int node), .val (.int p0), .val (.int p1), .val (.int p2), .val (.int p3), .val (.ref b2), .val (.int (2 : Int32))] [(.int (2 : Int32)), (.int (2 : Int32))])
          refine Wk.st (g' := (mkF m 113 #[.val (.ref g), .val (.int node), .val (.int p0), .val (.int p1), .val (.int p2), .val (.int p3), .val (.ref b2), .val (.int (2 : Int32))] [])) (fun X t q => XS.icmpNo X.here C.hx rfl (hb C.hby d3_110) rfl (XT.ii_ne_f (by decide)) q) ?_
          refine Wk.st (g' := (mkF m 115 #[.val (.ref g), .val (.int node), .val (.int p0), .val (.int p1), .val (.int p2), .val (.int p3), .val (.ref b2), .val (.int (2 : Int32))] [(.int (2 : Int32))])) (fun X t q => XS.iload X.here C.hx rfl (hb C.hby d3_113) rfl q) ?_
          refine Wk.st (g' := (mkF m 116 #[.val (.ref g), .val (.int node), .val (.int p0), .val (.int p1), .val (.int p2), .val (.int p3), .val (.ref b2), .val (.int (2 : Int32))] [(.int (3 : Int32)), (.int (2 : Int32))])) (fun X t q => XS.iconst X.here C.hx rfl (hb C.hby d3_115) q) ?_
          refine Wk.st (g' := (mkF m 129 #[.val (.ref g), .val (.int node), .val (.int p0), .val (.int p1), .val (.int p2), .val (.int p3), .val (.ref b2), .val (.int (2 : Int32))] [])) (fun X t q => XS.icmpYes X.here C.hx rfl (pc0 := 116) (pc' := 129) rfl (hb C.hby d3_116) rfl (XT.ii_lt_t (by decide)) (by decide) (by decide) q) ?_
          refine Wk.st (g' := (mkF m 131 #[.val (.ref g), .val (.int node), .val (.int p0), .val (.int p1), .val (.int p2), .val (.int p3), .val (.ref b2), .val (.int (2 : Int32))] [(.int (2 : Int32))])) (fun X t q => XS.iload X.here C.hx rfl (hb C.hby d3_129) rfl q) ?_
          refine Wk.st (g' := (mkF m 132 #[.val (.ref g), .val (.int node), .val (.int p0), .val (.int p1), .val (.int p2), .val (.int p3), .val (.ref b2), .val (.int (2 : Int32))] [(.int (4 : Int32)), (.int (2 : Int32))])) (fun X t q => XS.iconst X.here C.hx rfl (hb C.hby d3_131) q) ?_
          refine Wk.st (g' := (mkF m 145 #[.val (.ref g), .val (.int node), .val (.int p0), .val (.int p1), .val (.int p2), .val (.int p3), .val (.ref b2), .val (.int (2 : Int32))] [])) (fun X t q => XS.icmpYes X.here C.hx rfl (pc0 := 132) (pc' := 145) rfl (hb C.hby d3_132) rfl (XT.ii_lt_t (by decide)) (by decide) (by decide) q) ?_
          refine Wk.st (g' := (mkF m 146 #[.val (.ref g), .val (.int node), .val (.int p0), .val (.int p1), .val (.int p2), .val (.int p3), .val (.ref b2), .val (.int (2 : Int32))] [(.int (1 : Int32))])) (fun X t q => XS.iconst X.here C.hx rfl (hb C.hby d3_145) q) ?_
          refine Wk.st (g' := (mkF m 150 #[.val (.ref g), .val (.int node), .val (.int p0), .val (.int p1), .val (.int p2), .val (.int p3), .val (.ref b2), .val (.int (2 : Int32))] [(.int (1 : Int32))])) (fun X t q => XS.goto X.here C.hx rfl (pc0 := 146) (pc' := 150) rfl (hb C.hby d3_146) (by decide) (by decide) q) ?_
          exact Wk.retV C (t := .boolean) rfl rfl (Or.inl ⟨rfl, by simp, _, rfl⟩) d3_150 (by decide) (by decide) ⟨rfl, K67⟩
      · skip
        refine Wk.st (g' := (mkF m 57 #[.val (.ref g), .val (.int node), .val (.int p0), .val (.int p1), .val (.int p2), .val (.int p3), .val (.ref b2), .val (.int (1 : Int32))] [])) (fun X t q => XS.icmpYes X.here C.hx rfl (pc0 := 45) (pc' := 57) rfl (hb C.hby d3_45) rfl (XT.ii_ne_t hb59) (by decide) (by decide) q) ?_
        refine Wk.st (g' := (mkF m 59 #[.val (.ref g), .val (.int node), .val (.int p0), .val (.int p1), .val (.int p2), .val (.int p3), .val (.ref b2), .val (.int (1 : Int32))] [(.int p3)])) (fun X t q => XS.iload X.here C.hx rfl (hb C.hby d3_57) rfl q) ?_
        refine Wk.st (g' := (mkF m 60 #[.val (.ref g), .val (.int node), .val (.int p0), .val (.int p1), .val (.int p2), .val (.int p3), .val (.ref b2), .val (.int (1 : Int32))] [(.int node), (.int p3)])) (fun X t q => XS.iloadN X.here C.hx rfl (hb C.hby d3_59) rfl q) ?_
        by_cases hb77 : p3 = node
        · skip
          refine Wk.st (g' := (mkF m 63 #[.val (.ref g), .val (.int node), .val (.int p0), .val (.int p1), .val (.int p2), .val (.int p3), .val (.ref b2), .val (.int (1 : Int32))] [])) (fun X t q => XS.icmpNo X.here C.hx rfl (hb C.hby d3_60) rfl (XT.ii_ne_f hb77) q) ?_
          refine Wk.st (g' := (mkF m 65 #[.val (.ref g), .val (.int node), .val (.int p0), .val (.int p1), .val (.int p2), .val (.int p3), .val (.ref b2), .val (.int (1 : Int32))] [(.ref b2)])) (fun X t q => XS.aload X.here C.hx rfl (hb C.hby d3_63) rfl rfl q) ?_
          refine Wk.st (g' := (mkF m 67 #[.val (.ref g), .val (.int node), .val (.int p0), .val (.int p1), .val (.int p2), .val (.int p3), .val (.ref b2), .val (.int (1 : Int32))] [(.int (1 : Int32)), (.ref b2)])) (fun X t q => XS.iload X.here C.hx rfl (hb C.hby d3_65) rfl q) ?_
          refine Wk.st (g' := (mkF m 68 #[.val (.ref g), .val (.int node), .val (.int p0), .val (.int p1), .val (.int p2), .val (.int p3), .val (.ref b2), .val (.int (1 : Int32))] [(.int (3 : Int32)), (.int (1 : Int32)), (.ref b2)])) (fun X t q => XS.iconst X.here C.hx rfl (hb C.hby d3_67) q) ?_
          refine Wk.fStI C F17 (i := 1) (by decide) (by decide) (by decide) ge8 d3_68 ?_
          intro h78 W79 F80
          have F81 : Fa Z h78 g .int (cn [p3, p2, p1, p0] J).toNatClampNeg (fun t => (.int (gk [p3, p2, p1, p0] J t))) := F18.other W79 ne7
          have F82 : Exa Z h78 b2 "[I" := F19.wr W79
          have sz83 : n0 ≤ h78.size := Nat.le_trans sz20 (Nat.le_of_eq W79.size.symm)
          have sy84 : h0.size ≤ h78.size := Nat.le_trans sy21 (Nat.le_of_eq W79.size.symm)
          have K85 := K22.wr W79 (Or.inr gz9)
          show Wk _ p l e _ s m _ below meth c n0 _ h78 1 4 (mkF m 69 #[.val (.ref g), .val (.int node), .val (.int p0), .val (.int p1), .val (.int p2), .val (.int p3), .val (.ref b2), .val (.int (1 : Int32))] [])
          refine Wk.st (g' := (mkF m 72 #[.val (.ref g), .val (.int node), .val (.int p0), .val (.int p1), .val (.int p2), .val (.int p3), .val (.ref b2), .val (.int (2 : Int32))] [])) (fun X t q => XS.iinc X.here C.hx rfl (hb C.hby d3_69) rfl (l' := #[.val (.ref g), .val (.int node), .val (.int p0), .val (.int p1), .val (.int p2), .val (.int p3), .val (.ref b2), .val (.int (2 : Int32))]) rfl q) ?_
          refine Wk.st (g' := (mkF m 73 #[.val (.ref g), .val (.int node), .val (.int p0), .val (.int p1), .val (.int p2), .val (.int p3), .val (.ref b2), .val (.int (2 : Int32))] [(.ref g)])) (fun X t q => XS.aloadN X.here C.hx rfl (hb C.hby d3_72) rfl rfl q) ?_
          refine Wk.fLen C F81 (z := (2 : Int32)) (by simp [cn, (to_yes hJ hb14), (to_no hJ hb23), (to_no hJ hb59), (to_yes hJ hb77)] <;> decide) d3_73 ?_
          show Wk _ p l e _ s m _ below meth c n0 _ h78 1 4 (mkF m 74 #[.val (.ref g), .val (.int node), .val (.int p0), .val (.int p1), .val (.int p2), .val (.int p3), .val (.ref b2), .val (.int (2 : Int32))] [(.int (2 : Int32))])
          refine Wk.st (g' := (mkF m 76 #[.val (.ref g), .val (.int node), .val (.int p0), .val (.int p1), .val (.int p2), .val (.int p3), .val (.ref b2), .val (.int (2 : Int32))] [(.int (2 : Int32)), (.int (2 : Int32))])) (fun X t q => XS.iload X.here C.hx rfl (hb C.hby d3_74) rfl q) ?_
          refine Wk.st (g' := (mkF m 81 #[.val (.ref g), .val (.int node), .val (.int p0), .val (.int p1), .val (.int p2), .val (.int p3), .val (.ref b2), .val (.int (2 : Int32))] [])) (fun X t q => XS.icmpYes X.here C.hx rfl (pc0 := 76) (pc' := 81) rfl (hb C.hby d3_76) rfl (XT.ii_eq_t (by decide)) (by decide) (by decide) q) ?_
          refine Wk.st (g' := (mkF m 83 #[.val (.ref g), .val (.int node), .val (.int p0), .val (.int p1), .val (.int p2), .val (.int p3), .val (.ref b2), .val (.int (2 : Int32))] [(.int (2 : Int32))])) (fun X t q => XS.iload X.here C.hx rfl (hb C.hby d3_81) rfl q) ?_
          refine Wk.st (g' := (mkF m 84 #[.val (.ref g), .val (.int node), .val (.int p0), .val (.int p1), .val (.int p2), .val (.int p3), .val (.ref b2), .val (.int (2 : Int32))] [(.int (1 : Int32)), (.int (2 : Int32))])) (fun X t q => XS.iconst X.here C.hx rfl (hb C.hby d3_83) q) ?_
          refine Wk.st (g' := (mkF m 87 #[.val (.ref g), .val (.int node), .val (.int p0), .val (.int p1), .val (.int p2), .val (.int p3), .val (.ref b2), .val (.int (2 : Int32))] [])) (fun X t q => XS.icmpNo X.here C.hx rfl (hb C.hby d3_84) rfl (XT.ii_lt_f (by decide)) q) ?_
          refine Wk.st (g' := (mkF m 88 #[.val (.ref g), .val (.int node), .val (.int p0), .val (.int p1), .val (.int p2), .val (.int p3), .val (.ref b2), .val (.int (2 : Int32))] [(.ref g)])) (fun X t q => XS.aloadN X.here C.hx rfl (hb C.hby d3_87) rfl rfl q) ?_
          refine Wk.st (g' := (mkF m 89 #[.val (.ref g), .val (.int node), .val (.int p0), .val (.int p1), .val (.int p2), .val (.int p3), .val (.ref b2), .val (.int (2 : Int32))] [(.int (0 : Int32)), (.ref g)])) (fun X t q => XS.iconst X.here C.hx rfl (hb C.hby d3_88) q) ?_
          refine Wk.fLdI C F81 (i := 0) (by decide) (by decide) (by simp [cn, (to_yes hJ hb14), (to_no hJ hb23), (to_no hJ hb59), (to_yes hJ hb77)] <;> decide) (v := (.int (0 : Int32))) (by simp [gk, cn, (to_yes hJ hb14), (to_no hJ hb23), (to_no hJ hb59), (to_yes hJ hb77)] <;> decide) d3_89 ?_
          show Wk _ p l e _ s m _ below meth c n0 _ h78 1 4 (mkF m 90 #[.val (.ref g), .val (.int node), .val (.int p0), .val (.int p1), .val (.int p2), .val (.int p3), .val (.ref b2), .val (.int (2 : Int32))] [(.int (0 : Int32))])
          refine Wk.st (g' := (mkF m 92 #[.val (.ref g), .val (.int node), .val (.int p0), .val (.int p1), .val (.int p2), .val (.int p3), .val (.ref b2), .val (.int (2 : Int32))] [(.ref b2), (.int (0 : Int32))])) (fun X t q => XS.aload X.here C.hx rfl (hb C.hby d3_90) rfl rfl q) ?_
          refine Wk.st (g' := (mkF m 93 #[.val (.ref g), .val (.int node), .val (.int p0), .val (.int p1), .val (.int p2), .val (.int p3), .val (.ref b2), .val (.int (2 : Int32))] [(.int (0 : Int32)), (.ref b2), (.int (0 : Int32))])) (fun X t q => XS.iconst X.here C.hx rfl (hb C.hby d3_92) q) ?_
          refine Wk.fLdI C F80 (i := 0) (by decide) (by decide) (by decide) (v := (.int (0 : Int32))) (by simp [up]) d3_93 ?_
          show Wk _ p l e _ s m _ below meth c n0 _ h78 1 4 (mkF m 94 #[.val (.ref g), .val (.int node), .val (.int p0), .val (.int p1), .val (.int p2), .val (.int p3), .val (.ref b2), .val (.int (2 : Int32))] [(.int (0 : Int32)), (.int (0 : Int32))])
          refine Wk.st (g' := (mkF m 97 #[.val (.ref g), .val (.int node), .val (.int p0), .val (.int p1), .val (.int p2), .val (.int p3), .val (.ref b2), .val (.int (2 : Int32))] [])) (fun X t q => XS.icmpNo X.here C.hx rfl (hb C.hby d3_94) rfl (XT.ii_ne_f (by decide)) q) ?_
          refine Wk.st (g' := (mkF m 99 #[.val (.ref g), .val (.int node), .val (.int p0), .val (.int p1), .val (.int p2), .val (.int p3), .val (.ref b2), .val (.int (2 : Int32))] [(.int (2 : Int32))])) (fun X t q => XS.iload X.here C.hx rfl (hb C.hby d3_97) rfl q) ?_
          refine Wk.st (g' := (mkF m 100 #[.val (.ref g), .val (.int node), .val (.int p0), .val (.int p1), .val (.int p2), .val (.int p3), .val (.ref b2), .val (.int (2 : Int32))] [(.int (2 : Int32)), (.int (2 : Int32))])) (fun X t q => XS.iconst X.here C.hx rfl (hb C.hby d3_99) q) ?_
          refine Wk.st (g' := (mkF m 103 #[.val (.ref g), .val (.int node), .val (.int p0), .val (.int p1), .val (.int p2), .val (.int p3), .val (.ref b2), .val (.int (2 : Int32))] [])) (fun X t q => XS.icmpNo X.here C.hx rfl (hb C.hby d3_100) rfl (XT.ii_lt_f (by decide)) q) ?_
          refine Wk.st (g' := (mkF m 104 #[.val (.ref g), .val (.int node), .val (.int p0), .val (.int p1), .val (.int p2), .val (.int p3), .val (.ref b2), .val (.int (2 : Int32))] [(.ref g)])) (fun X t q => XS.aloadN X.here C.hx rfl (hb C.hby d3_103) rfl rfl q) ?_
          refine Wk.st (g' := (mkF m 105 #[.val (.ref g), .val (.int node), .val (.int p0), .val (.int p1), .val (.int p2), .val (.int p3), .val (.ref b2), .val (.int (2 : Int32))] [(.int (1 : Int32)), (.ref g)])) (fun X t q => XS.iconst X.here C.hx rfl (hb C.hby d3_104) q) ?_
          refine Wk.fLdI C F81 (i := 1) (by decide) (by decide) (by simp [cn, (to_yes hJ hb14), (to_no hJ hb23), (to_no hJ hb59), (to_yes hJ hb77)] <;> decide) (v := (.int (3 : Int32))) (by simp [gk, cn, (to_yes hJ hb14), (to_no hJ hb23), (to_no hJ hb59), (to_yes hJ hb77)] <;> decide) d3_105 ?_
          show Wk _ p l e _ s m _ below meth c n0 _ h78 1 4 (mkF m 106 #[.val (.ref g), .val (.int node), .val (.int p0), .val (.int p1), .val (.int p2), .val (.int p3), .val (.ref b2), .val (.int (2 : Int32))] [(.int (3 : Int32))])
          refine Wk.st (g' := (mkF m 108 #[.val (.ref g), .val (.int node), .val (.int p0), .val (.int p1), .val (.int p2), .val (.int p3), .val (.ref b2), .val (.int (2 : Int32))] [(.ref b2), (.int (3 : Int32))])) (fun X t q => XS.aload X.here C.hx rfl (hb C.hby d3_106) rfl rfl q) ?_
          refine Wk.st (g' := (mkF m 109 #[.val (.ref g), .val (.int node), .val (.int p0), .val (.int p1), .val (.int p2), .val (.int p3), .val (.ref b2), .val (.int (2 : Int32))] [(.int (1 : Int32)), (.ref b2), (.int (3 : Int32))])) (fun X t q => XS.iconst X.here C.hx rfl (hb C.hby d3_108) q) ?_
          refine Wk.fLdI C F80 (i := 1) (by decide) (by decide) (by decide) (v := (.int (3 : Int32))) (by simp [up]) d3_109 ?_
          show Wk _ p l e _ s m _ below meth c n0 _ h78 1 4 (mkF m 110 #[.val (.ref g), .val (.int node), .val (.int p0), .val (.int p1), .val (.int p2), .val (.int p3), .val (.ref b2), .val (.int (2 : Int32))] [(.int (3 : Int32)), (.int (3 : Int32))])
          refine Wk.st (g' := (mkF m 113 #[.val (.ref g), .val (.int node), .val (.int p0), .val (.int p1), .val (.int p2), .val (.int p3), .val (.ref b2), .val (.int (2 : Int32))] [])) (fun X t q => XS.icmpNo X.here C.hx rfl (hb C.hby d3_110) rfl (XT.ii_ne_f (by decide)) q) ?_
          refine Wk.st (g' := (mkF m 115 #[.val (.ref g), .val (.int node), .val (.int p0), .val (.int p1), .val (.int p2), .val (.int p3), .val (.ref b2), .val (.int (2 : Int32))] [(.int (2 : Int32))])) (fun X t q => XS.iload X.here C.hx rfl (hb C.hby d3_113) rfl q) ?_
          refine Wk.st (g' := (mkF m 116 #[.val (.ref g), .val (.int node), .val (.int p0), .val (.int p1), .val (.int p2), .val (.int p3), .val (.ref b2), .val (.int (2 : Int32))] [(.int (3 : Int32)), (.int (2 : Int32))])) (fun X t q => XS.iconst X.here C.hx rfl (hb C.hby d3_115) q) ?_
          refine Wk.st (g' := (mkF m 129 #[.val (.ref g), .val (.int node), .val (.int p0), .val (.int p1), .val (.int p2), .val (.int p3), .val (.ref b2), .val (.int (2 : Int32))] [])) (fun X t q => XS.icmpYes X.here C.hx rfl (pc0 := 116) (pc' := 129) rfl (hb C.hby d3_116) rfl (XT.ii_lt_t (by decide)) (by decide) (by decide) q) ?_
          refine Wk.st (g' := (mkF m 131 #[.val (.ref g), .val (.int node), .val (.int p0), .val (.int p1), .val (.int p2), .val (.int p3), .val (.ref b2), .val (.int (2 : Int32))] [(.int (2 : Int32))])) (fun X t q => XS.iload X.here C.hx rfl (hb C.hby d3_129) rfl q) ?_
          refine Wk.st (g' := (mkF m 132 #[.val (.ref g), .val (.int node), .val (.int p0), .val (.int p1), .val (.int p2), .val (.int p3), .val (.ref b2), .val (.int (2 : Int32))] [(.int (4 : Int32)), (.int (2 : Int32))])) (fun X t q => XS.iconst X.here C.hx rfl (hb C.hby d3_131) q) ?_
          refine Wk.st (g' := (mkF m 145 #[.val (.ref g), .val (.int node), .val (.int p0), .val (.int p1), .val (.int p2), .val (.int p3), .val (.ref b2), .val (.int (2 : Int32))] [])) (fun X t q => XS.icmpYes X.here C.hx rfl (pc0 := 132) (pc' := 145) rfl (hb C.hby d3_132) rfl (XT.ii_lt_t (by decide)) (by decide) (by decide) q) ?_
          refine Wk.st (g' := (mkF m 146 #[.val (.ref g), .val (.int node), .val (.int p0), .val (.int p1), .val (.int p2), .val (.int p3), .val (.ref b2), .val (.int (2 : Int32))] [(.int (1 : Int32))])) (fun X t q => XS.iconst X.here C.hx rfl (hb C.hby d3_145) q) ?_
          refine Wk.st (g' := (mkF m 150 #[.val (.ref g), .val (.int node), .val (.int p0), .val (.int p1), .val (.int p2), .val (.int p3), .val (.ref b2), .val (.int (2 : Int32))] [(.int (1 : Int32))])) (fun X t q => XS.goto X.here C.hx rfl (pc0 := 146) (pc' := 150) rfl (hb C.hby d3_146) (by decide) (by decide) q) ?_
          exact Wk.retV C (t := .boolean) rfl rfl (Or.inl ⟨rfl, by simp, _, rfl⟩) d3_150 (by decide) (by decide) ⟨rfl, K85⟩
        · skip
          refine Wk.st (g' := (mkF m 72 #[.val (.ref g), .val (.int node), .val (.int p0), .val (.int p1), .val (.int p2), .val (.int p3), .val (.ref b2), .val (.int (1 : Int32))] [])) (fun X t q => XS.icmpYes X.here C.hx rfl (pc0 := 60) (pc' := 72) rfl (hb C.hby d3_60) rfl (XT.ii_ne_t hb77) (by decide) (by decide) q) ?_
          refine Wk.st (g' := (mkF m 73 #[.val (.ref g), .val (.int node), .val (.int p0), .val (.int p1), .val (.int p2), .val (.int p3), .val (.ref b2), .val (.int (1 : Int32))] [(.ref g)])) (fun X t q => XS.aloadN X.here C.hx rfl (hb C.hby d3_72) rfl rfl q) ?_
          refine Wk.fLen C F18 (z := (1 : Int32)) (by simp [cn, (to_yes hJ hb14), (to_no hJ hb23), (to_no hJ hb59), (to_no hJ hb77)] <;> decide) d3_73 ?_
          show Wk _ p l e _ s m _ below meth c n0 _ h15 1 4 (mkF m 74 #[.val (.ref g), .val (.int node), .val (.int p0), .val (.int p1), .val (.int p2), .val (.int p3), .val (.ref b2), .val (.int (1 : Int32))] [(.int (1 : Int32))])
          refine Wk.st (g' := (mkF m 76 #[.val (.ref g), .val (.int node), .val (.int p0), .val (.int p1), .val (.int p2), .val (.int p3), .val (.ref b2), .val (.int (1 : Int32))] [(.int (1 : Int32)), (.int (1 : Int32))])) (fun X t q => XS.iload X.here C.hx rfl (hb C.hby d3_74) rfl q) ?_
          refine Wk.st (g' := (mkF m 81 #[.val (.ref g), .val (.int node), .val (.int p0), .val (.int p1), .val (.int p2), .val (.int p3), .val (.ref b2), .val (.int (1 : Int32))] [])) (fun X t q => XS.icmpYes X.here C.hx rfl (pc0 := 76) (pc' := 81) rfl (hb C.hby d3_76) rfl (XT.ii_eq_t (by decide)) (by decide) (by decide) q) ?_
          refine Wk.st (g' := (mkF m 83 #[.val (.ref g), .val (.int node), .val (.int p0), .val (.int p1), .val (.int p2), .val (.int p3), .val (.ref b2), .val (.int (1 : Int32))] [(.int (1 : Int32))])) (fun X t q => XS.iload X.here C.hx rfl (hb C.hby d3_81) rfl q) ?_
          refine Wk.st (g' := (mkF m 84 #[.val (.ref g), .val (.int node), .val (.int p0), .val (.int p1), .val (.int p2), .val (.int p3), .val (.ref b2), .val (.int (1 : Int32))] [(.int (1 : Int32)), (.int (1 : Int32))])) (fun X t q => XS.iconst X.here C.hx rfl (hb C.hby d3_83) q) ?_
          refine Wk.st (g' := (mkF m 87 #[.val (.ref g), .val (.int node), .val (.int p0), .val (.int p1), .val (.int p2), .val (.int p3), .val (.ref b2), .val (.int (1 : Int32))] [])) (fun X t q => XS.icmpNo X.here C.hx rfl (hb C.hby d3_84) rfl (XT.ii_lt_f (by decide)) q) ?_
          refine Wk.st (g' := (mkF m 88 #[.val (.ref g), .val (.int node), .val (.int p0), .val (.int p1), .val (.int p2), .val (.int p3), .val (.ref b2), .val (.int (1 : Int32))] [(.ref g)])) (fun X t q => XS.aloadN X.here C.hx rfl (hb C.hby d3_87) rfl rfl q) ?_
          refine Wk.st (g' := (mkF m 89 #[.val (.ref g), .val (.int node), .val (.int p0), .val (.int p1), .val (.int p2), .val (.int p3), .val (.ref b2), .val (.int (1 : Int32))] [(.int (0 : Int32)), (.ref g)])) (fun X t q => XS.iconst X.here C.hx rfl (hb C.hby d3_88) q) ?_
          refine Wk.fLdI C F18 (i := 0) (by decide) (by decide) (by simp [cn, (to_yes hJ hb14), (to_no hJ hb23), (to_no hJ hb59), (to_no hJ hb77)] <;> decide) (v := (.int (0 : Int32))) (by simp [gk, cn, (to_yes hJ hb14), (to_no hJ hb23), (to_no hJ hb59), (to_no hJ hb77)] <;> decide) d3_89 ?_
          show Wk _ p l e _ s m _ below meth c n0 _ h15 1 4 (mkF m 90 #[.val (.ref g), .val (.int node), .val (.int p0), .val (.int p1), .val (.int p2), .val (.int p3), .val (.ref b2), .val (.int (1 : Int32))] [(.int (0 : Int32))])
          refine Wk.st (g' := (mkF m 92 #[.val (.ref g), .val (.int node), .val (.int p0), .val (.int p1), .val (.int p2), .val (.int p3), .val (.ref b2), .val (.int (1 : Int32))] [(.ref b2), (.int (0 : Int32))])) (fun X t q => XS.aload X.here C.hx rfl (hb C.hby d3_90) rfl rfl q) ?_
          refine Wk.st (g' := (mkF m 93 #[.val (.ref g), .val (.int node), .val (.int p0), .val (.int p1), .val (.int p2), .val (.int p3), .val (.ref b2), .val (.int (1 : Int32))] [(.int (0 : Int32)), (.ref b2), (.int (0 : Int32))])) (fun X t q => XS.iconst X.here C.hx rfl (hb C.hby d3_92) q) ?_
          refine Wk.fLdI C F17 (i := 0) (by decide) (by decide) (by decide) (v := (.int (0 : Int32))) (by simp [up]) d3_93 ?_
          show Wk _ p l e _ s m _ below meth c n0 _ h15 1 4 (mkF m 94 #[.val (.ref g), .val (.int node), .val (.int p0), .val (.int p1), .val (.int p2), .val (.int p3), .val (.ref b2), .val (.int (1 : Int32))] [(.int (0 : Int32)), (.int (0 : Int32))])
          refine Wk.st (g' := (mkF m 97 #[.val (.ref g), .val (.int node), .val (.int p0), .val (.int p1), .val (.int p2), .val (.int p3), .val (.ref b2), .val (.int (1 : Int32))] [])) (fun X t q => XS.icmpNo X.here C.hx rfl (hb C.hby d3_94) rfl (XT.ii_ne_f (by decide)) q) ?_
          refine Wk.st (g' := (mkF m 99 #[.val (.ref g), .val (.int node), .val (.int p0), .val (.int p1), .val (.int p2), .val (.int p3), .val (.ref b2), .val (.int (1 : Int32))] [(.int (1 : Int32))])) (fun X t q => XS.iload X.here C.hx rfl (hb C.hby d3_97) rfl q) ?_
          refine Wk.st (g' := (mkF m 100 #[.val (.ref g), .val (.int node), .val (.int p0), .val (.int p1), .val (.int p2), .val (.int p3), .val (.ref b2), .val (.int (1 : Int32))] [(.int (2 : Int32)), (.int (1 : Int32))])) (fun X t q => XS.iconst X.here C.hx rfl (hb C.hby d3_99) q) ?_
          refine Wk.st (g' := (mkF m 113 #[.val (.ref g), .val (.int node), .val (.int p0), .val (.int p1), .val (.int p2), .val (.int p3), .val (.ref b2), .val (.int (1 : Int32))] [])) (fun X t q => XS.icmpYes X.here C.hx rfl (pc0 := 100) (pc' := 113) rfl (hb C.hby d3_100) rfl (XT.ii_lt_t (by decide)) (by decide) (by decide) q) ?_
          refine Wk.st (g' := (mkF m 115 #[.val (.ref g), .val (.int node), .val (.int p0), .val (.int p1), .val (.int p2), .val (.int p3), .val (.ref b2), .val (.int (1 : Int32))] [(.int (1 : Int32))])) (fun X t q => XS.iload X.here C.hx rfl (hb C.hby d3_113) rfl q) ?_
          refine Wk.st (g' := (mkF m 116 #[.val (.ref g), .val (.int node), .val (.int p0), .val (.int p1), .val (.int p2), .val (.int p3), .val (.ref b2), .val (.int (1 : Int32))] [(.int (3 : Int32)), (.int (1 : Int32))])) (fun X t q => XS.iconst X.here C.hx rfl (hb C.hby d3_115) q) ?_
          refine Wk.st (g' := (mkF m 129 #[.val (.ref g), .val (.int node), .val (.int p0), .val (.int p1), .val (.int p2), .val (.int p3), .val (.ref b2), .val (.int (1 : Int32))] [])) (fun X t q => XS.icmpYes X.here C.hx rfl (pc0 := 116) (pc' := 129) rfl (hb C.hby d3_116) rfl (XT.ii_lt_t (by decide)) (by decide) (by decide) q) ?_
          refine Wk.st (g' := (mkF m 131 #[.val (.ref g), .val (.int node), .val (.int p0), .val (.int p1), .val (.int p2), .val (.int p3), .val (.ref b2), .val (.int (1 : Int32))] [(.int (1 : Int32))])) (fun X t q => XS.iload X.here C.hx rfl (hb C.hby d3_129) rfl q) ?_
          refine Wk.st (g' := (mkF m 132 #[.val (.ref g), .val (.int node), .val (.int p0), .val (.int p1), .val (.int p2), .val (.int p3), .val (.ref b2), .val (.int (1 : Int32))] [(.int (4 : Int32)), (.int (1 : Int32))])) (fun X t q => XS.iconst X.here C.hx rfl (hb C.hby d3_131) q) ?_
          refine Wk.st (g' := (mkF m 145 #[.val (.ref g), .val (.int node), .val (.int p0), .val (.int p1), .val (.int p2), .val (.int p3), .val (.ref b2), .val (.int (1 : Int32))] [])) (fun X t q => XS.icmpYes X.here C.hx rfl (pc0 := 132) (pc' := 145) rfl (hb C.hby d3_132) rfl (XT.ii_lt_t (by decide)) (by decide) (by decide) q) ?_
          refine Wk.st (g' := (mkF m 146 #[.val (.ref g), .val (.int node), .val (.int p0), .val (.int p1), .val (.int p2), .val (.int p3), .val (.ref b2), .val (.int (1 : Int32))] [(.int (1 : Int32))])) (fun X t q => XS.iconst X.here C.hx rfl (hb C.hby d3_145) q) ?_
          refine Wk.st (g' := (mkF m 150 #[.val (.ref g), .val (.int node), .val (.int p0), .val (.int p1), .val (.int p2), .val (.int p3), .val (.ref b2), .val (.int (1 : Int32))] [(.int (1 : Int32))])) (fun X t q => XS.goto X.here C.hx rfl (pc0 := 146) (pc' := 150) rfl (hb C.hby d3_146) (by decide) (by decide) q) ?_
          exact Wk.retV C (t := .boolean) rfl rfl (Or.inl ⟨rfl, by simp, _, rfl⟩) d3_150 (by decide) (by decide) ⟨rfl, K22⟩
  · skip
    refine Wk.st (g' := (mkF m 28 #[.val (.ref g), .val (.int node), .val (.int p0), .val (.int p1), .val (.int p2), .val (.int p3), .val (.ref b2), .val (.int (0 : Int32))] [])) (fun X t q => XS.icmpYes X.here C.hx rfl (pc0 := 16) (pc' := 28) rfl (hb C.hby d3_16) rfl (XT.ii_ne_t hb14) (by decide) (by decide) q) ?_
    refine Wk.st (g' := (mkF m 29 #[.val (.ref g), .val (.int node), .val (.int p0), .val (.int p1), .val (.int p2), .val (.int p3), .val (.ref b2), .val (.int (0 : Int32))] [(.int p1)])) (fun X t q => XS.iloadN X.here C.hx rfl (hb C.hby d3_28) rfl q) ?_
    refine Wk.st (g' := (mkF m 30 #[.val (.ref g), .val (.int node), .val (.int p0), .val (.int p1), .val (.int p2), .val (.int p3), .val (.ref b2), .val (.int (0 : Int32))] [(.int node), (.int p1)])) (fun X t q => XS.iloadN X.here C.hx rfl (hb C.hby d3_29) rfl q) ?_
    by_cases hb86 : p1 = node
    · skip
      refine Wk.st (g' := (mkF m 33 #[.val (.ref g), .val (.int node), .val (.int p0), .val (.int p1), .val (.int p2), .val (.int p3), .val (.ref b2), .val (.int (0 : Int32))] [])) (fun X t q => XS.icmpNo X.here C.hx rfl (hb C.hby d3_30) rfl (XT.ii_ne_f hb86) q) ?_
      refine Wk.st (g' := (mkF m 35 #[.val (.ref g), .val (.int node), .val (.int p0), .val (.int p1), .val (.int p2), .val (.int p3), .val (.ref b2), .val (.int (0 : Int32))] [(.ref b2)])) (fun X t q => XS.aload X.here C.hx rfl (hb C.hby d3_33) rfl rfl q) ?_
      refine Wk.st (g' := (mkF m 37 #[.val (.ref g), .val (.int node), .val (.int p0), .val (.int p1), .val (.int p2), .val (.int p3), .val (.ref b2), .val (.int (0 : Int32))] [(.int (0 : Int32)), (.ref b2)])) (fun X t q => XS.iload X.here C.hx rfl (hb C.hby d3_35) rfl q) ?_
      refine Wk.st (g' := (mkF m 38 #[.val (.ref g), .val (.int node), .val (.int p0), .val (.int p1), .val (.int p2), .val (.int p3), .val (.ref b2), .val (.int (0 : Int32))] [(.int (1 : Int32)), (.int (0 : Int32)), (.ref b2)])) (fun X t q => XS.iconst X.here C.hx rfl (hb C.hby d3_37) q) ?_
      refine Wk.fStI C F6 (i := 0) (by decide) (by decide) (by decide) ge8 d3_38 ?_
      intro h87 W88 F89
      have F90 : Fa Z h87 g .int (cn [p3, p2, p1, p0] J).toNatClampNeg (fun t => (.int (gk [p3, p2, p1, p0] J t))) := F10.other W88 ne7
      have F91 : Exa Z h87 b2 "[I" := A5.wr W88
      have sz92 : n0 ≤ h87.size := Nat.le_trans sz11 (Nat.le_of_eq W88.size.symm)
      have sy93 : h0.size ≤ h87.size := Nat.le_trans sy12 (Nat.le_of_eq W88.size.symm)
      have K94 := K13.wr W88 (Or.inr gz9)
      show Wk _ p l e _ s m _ below meth c n0 _ h87 1 4 (mkF m 39 #[.val (.ref g), .val (.int node), .val (.int p0), .val (.int p1), .val (.int p2), .val (.int p3), .val (.ref b2), .val (.int (0 : Int32))] [])
      refine Wk.st (g' := (mkF m 42 #[.val (.ref g), .val (.int node), .val (.int p0), .val (.int p1), .val (.int p2), .val (.int p3), .val (.ref b2), .val (.int (1 : Int32))] [])) (fun X t q => XS.iinc X.here C.hx rfl (hb C.hby d3_39) rfl (l' := #[.val (.ref g), .val (.int node), .val (.int p0), .val (.int p1), .val (.int p2), .val (.int p3), .val (.ref b2), .val (.int (1 : Int32))]) rfl q) ?_
      refine Wk.st (g' := (mkF m 44 #[.val (.ref g), .val (.int node), .val (.int p0), .val (.int p1), .val (.int p2), .val (.int p3), .val (.ref b2), .val (.int (1 : Int32))] [(.int p2)])) (fun X t q => XS.iload X.here C.hx rfl (hb C.hby d3_42) rfl q) ?_
      refine Wk.st (g' := (mkF m 45 #[.val (.ref g), .val (.int node), .val (.int p0), .val (.int p1), .val (.int p2), .val (.int p3), .val (.ref b2), .val (.int (1 : Int32))] [(.int node), (.int p2)])) (fun X t q => XS.iloadN X.here C.hx rfl (hb C.hby d3_44) rfl q) ?_
      by_cases hb95 : p2 = node
      · skip
        refine Wk.st (g' := (mkF m 48 #[.val (.ref g), .val (.int node), .val (.int p0), .val (.int p1), .val (.int p2), .val (.int p3), .val (.ref b2), .val (.int (1 : Int32))] [])) (fun X t q => XS.icmpNo X.here C.hx rfl (hb C.hby d3_45) rfl (XT.ii_ne_f hb95) q) ?_
        refine Wk.st (g' := (mkF m 50 #[.val (.ref g), .val (.int node), .val (.int p0), .val (.int p1), .val (.int p2), .val (.int p3), .val (.ref b2), .val (.int (1 : Int32))] [(.ref b2)])) (fun X t q => XS.aload X.here C.hx rfl (hb C.hby d3_48) rfl rfl q) ?_
        refine Wk.st (g' := (mkF m 52 #[.val (.ref g), .val (.int node), .val (.int p0), .val (.int p1), .val (.int p2), .val (.int p3), .val (.ref b2), .val (.int (1 : Int32))] [(.int (1 : Int32)), (.ref b2)])) (fun X t q => XS.iload X.here C.hx rfl (hb C.hby d3_50) rfl q) ?_
        refine Wk.st (g' := (mkF m 53 #[.val (.ref g), .val (.int node), .val (.int p0), .val (.int p1), .val (.int p2), .val (.int p3), .val (.ref b2), .val (.int (1 : Int32))] [(.int (2 : Int32)), (.int (1 : Int32)), (.ref b2)])) (fun X t q => XS.iconst X.here C.hx rfl (hb C.hby d3_52) q) ?_
        refine Wk.fStI C F89 (i := 1) (by decide) (by decide) (by decide) ge8 d3_53 ?_
        intro h96 W97 F98
        have F99 : Fa Z h96 g .int (cn [p3, p2, p1, p0] J).toNatClampNeg (fun t => (.int (gk [p3, p2, p1, p0] J t))) := F90.other W97 ne7
        have F100 : Exa Z h96 b2 "[I" := F91.wr W97
        have sz101 : n0 ≤ h96.size := Nat.le_trans sz92 (Nat.le_of_eq W97.size.symm)
        have sy102 : h0.size ≤ h96.size := Nat.le_trans sy93 (Nat.le_of_eq W97.size.symm)
        have K103 := K94.wr W97 (Or.inr gz9)
        show Wk _ p l e _ s m _ below meth c n0 _ h96 1 4 (mkF m 54 #[.val (.ref g), .val (.int node), .val (.int p0), .val (.int p1), .val (.int p2), .val (.int p3), .val (.ref b2), .val (.int (1 : Int32))] [])
        refine Wk.st (g' := (mkF m 57 #[.val (.ref g), .val (.int node), .val (.int p0), .val (.int p1), .val (.int p2), .val (.int p3), .val (.ref b2), .val (.int (2 : Int32))] [])) (fun X t q => XS.iinc X.here C.hx rfl (hb C.hby d3_54) rfl (l' := #[.val (.ref g), .val (.int node), .val (.int p0), .val (.int p1), .val (.int p2), .val (.int p3), .val (.ref b2), .val (.int (2 : Int32))]) rfl q) ?_
        refine Wk.st (g' := (mkF m 59 #[.val (.ref g), .val (.int node), .val (.int p0), .val (.int p1), .val (.int p2), .val (.int p3), .val (.ref b2), .val (.int (2 : Int32))] [(.int p3)])) (fun X t q => XS.iload X.here C.hx rfl (hb C.hby d3_57) rfl q) ?_
        refine Wk.st (g' := (mkF m 60 #[.val (.ref g), .val (.int node), .val (.int p0), .val (.int p1), .val (.int p2), .val (.int p3), .val (.ref b2), .val (.int (2 : Int32))] [(.int node), (.int p3)])) (fun X t q => XS.iloadN X.here C.hx rfl (hb C.hby d3_59) rfl q) ?_
        by_cases hb104 : p3 = node
        · skip
          refine Wk.st (g' := (mkF m 63 #[.val (.ref g), .val (.int node), .val (.int p0), .val (.int p1), .val (.int p2), .val (.int p3), .val (.ref b2), .val (.int (2 : Int32))] [])) (fun X t q => XS.icmpNo X.here C.hx rfl (hb C.hby d3_60) rfl (XT.ii_ne_f hb104) q) ?_
          refine Wk.st (g' := (mkF m 65 #[.val (.ref g), .val (.int node), .val (.int p0), .val (.int p1), .val (.int p2), .val (.int p3), .val (.ref b2), .val (.int (2 : Int32))] [(.ref b2)])) (fun X t q => XS.aload X.here C.hx rfl (hb C.hby d3_63) rfl rfl q) ?_
          refine Wk.st (g' := (mkF m 67 #[.val (.ref g), .val (.int node), .val (.int p0), .val (.int p1), .val (.int p2), .val (.int p3), .val (.ref b2), .val (.int (2 : Int32))] [(.int (2 : Int32)), (.ref b2)])) (fun X t q => XS.iload X.here C.hx rfl (hb C.hby d3_65) rfl q) ?_
          refine Wk.st (g' := (mkF m 68 #[.val (.ref g), .val (.int node), .val (.int p0), .val (.int p1), .val (.int p2), .val (.int p3), .val (.ref b2), .val (.int (2 : Int32))] [(.int (3 : Int32)), (.int (2 : Int32)), (.ref b2)])) (fun X t q => XS.iconst X.here C.hx rfl (hb C.hby d3_67) q) ?_
          refine Wk.fStI C F98 (i := 2) (by decide) (by decide) (by decide) ge8 d3_68 ?_
          intro h105 W106 F107
          have F108 : Fa Z h105 g .int (cn [p3, p2, p1, p0] J).toNatClampNeg (fun t => (.int (gk [p3, p2, p1, p0] J t))) := F99.other W106 ne7
          have F109 : Exa Z h105 b2 "[I" := F100.wr W106
          have sz110 : n0 ≤ h105.size := Nat.le_trans sz101 (Nat.le_of_eq W106.size.symm)
          have sy111 : h0.size ≤ h105.size := Nat.le_trans sy102 (Nat.le_of_eq W106.size.symm)
          have K112 := K103.wr W106 (Or.inr gz9)
          show Wk _ p l e _ s m _ below meth c n0 _ h105 1 4 (mkF m 69 #[.val (.ref g), .val (.int node), .val (.int p0), .val (.int p1), .val (.int p2), .val (.int p3), .val (.ref b2), .val (.int (2 : Int32))] [])
          refine Wk.st (g' := (mkF m 72 #[.val (.ref g), .val (.int node), .val (.int p0), .val (.int p1), .val (.int p2), .val (.int p3), .val (.ref b2), .val (.int (3 : Int32))] [])) (fun X t q => XS.iinc X.here C.hx rfl (hb C.hby d3_69) rfl (l' := #[.val (.ref g), .val (.int node), .val (.int p0), .val (.int p1), .val (.int p2), .val (.int p3), .val (.ref b2), .val (.int (3 : Int32))]) rfl q) ?_
          refine Wk.st (g' := (mkF m 73 #[.val (.ref g), .val (.int node), .val (.int p0), .val (.int p1), .val (.int p2), .val (.int p3), .val (.ref b2), .val (.int (3 : Int32))] [(.ref g)])) (fun X t q => XS.aloadN X.here C.hx rfl (hb C.hby d3_72) rfl rfl q) ?_
          refine Wk.fLen C F108 (z := (3 : Int32)) (by simp [cn, (to_no hJ hb14), (to_yes hJ hb86), (to_yes hJ hb95), (to_yes hJ hb104)] <;> decide) d3_73 ?_
          show Wk _ p l e _ s m _ below meth c n0 _ h105 1 4 (mkF m 74 #[.val (.ref g), .val (.int node), .val (.int p0), .val (.int p1), .val (.int p2), .val (.int p3), .val (.ref b2), .val (.int (3 : Int32))] [(.int (3 : Int32))])
          refine Wk.st (g' := (mkF m 76 #[.val (.ref g), .val (.int node), .val (.int p0), .val (.int p1), .val (.int p2), .val (.int p3), .val (.ref b2), .val (.int (3 : Int32))] [(.int (3 : Int32)), (.int (3 : Int32))])) (fun X t q => XS.iload X.here C.hx rfl (hb C.hby d3_74) rfl q) ?_
          refine Wk.st (g' := (mkF m 81 #[.val (.ref g), .val (.int node), .val (.int p0), .val (.int p1), .val (.int p2), .val (.int p3), .val (.ref b2), .val (.int (3 : Int32))] [])) (fun X t q => XS.icmpYes X.here C.hx rfl (pc0 := 76) (pc' := 81) rfl (hb C.hby d3_76) rfl (XT.ii_eq_t (by decide)) (by decide) (by decide) q) ?_
          refine Wk.st (g' := (mkF m 83 #[.val (.ref g), .val (.int node), .val (.int p0), .val (.int p1), .val (.int p2), .val (.int p3), .val (.ref b2), .val (.int (3 : Int32))] [(.int (3 : Int32))])) (fun X t q => XS.iload X.here C.hx rfl (hb C.hby d3_81) rfl q) ?_
          refine Wk.st (g' := (mkF m 84 #[.val (.ref g), .val (.int node), .val (.int p0), .val (.int p1), .val (.int p2), .val (.int p3), .val (.ref b2), .val (.int (3 : Int32))] [(.int (1 : Int32)), (.int (3 : Int32))])) (fun X t q => XS.iconst X.here C.hx rfl (hb C.hby d3_83) q) ?_
          refine Wk.st (g' := (mkF m 87 #[.val (.ref g), .val (.int node), .val (.int p0), .val (.int p1), .val (.int p2), .val (.int p3), .val (.ref b2), .val (.int (3 : Int32))] [])) (fun X t q => XS.icmpNo X.here C.hx rfl (hb C.hby d3_84) rfl (XT.ii_lt_f (by decide)) q) ?_
          refine Wk.st (g' := (mkF m 88 #[.val (.ref g), .val (.int node), .val (.int p0), .val (.int p1), .val (.int p2), .val (.int p3), .val (.ref b2), .val (.int (3 : Int32))] [(.ref g)])) (fun X t q => XS.aloadN X.here C.hx rfl (hb C.hby d3_87) rfl rfl q) ?_
          refine Wk.st (g' := (mkF m 89 #[.val (.ref g), .val (.int node), .val (.int p0), .val (.int p1), .val (.int p2), .val (.int p3), .val (.ref b2), .val (.int (3 : Int32))] [(.int (0 : Int32)), (.ref g)])) (fun X t q => XS.iconst X.here C.hx rfl (hb C.hby d3_88) q) ?_
          refine Wk.fLdI C F108 (i := 0) (by decide) (by decide) (by simp [cn, (to_no hJ hb14), (to_yes hJ hb86), (to_yes hJ hb95), (to_yes hJ hb104)] <;> decide) (v := (.int (1 : Int32))) (by simp [gk, cn, (to_no hJ hb14), (to_yes hJ hb86), (to_yes hJ hb95), (to_yes hJ hb104)] <;> decide) d3_89 ?_
          show Wk _ p l e _ s m _ below meth c n0 _ h105 1 4 (mkF m 90 #[.val (.ref g), .val (.int node), .val (.int p0), .val (.int p1), .val (.int p2), .val (.int p3), .val (.ref b2), .val (.int (3 : Int32))] [(.int (1 : Int32))])
          refine Wk.st (g' := (mkF m 92 #[.val (.ref g), .val (.int node), .val (.int p0), .val (.int p1), .val (.int p2), .val (.int p3), .val (.ref b2), .val (.int (3 : Int32))] [(.ref b2), (.int (1 : Int32))])) (fun X t q => XS.aload X.here C.hx rfl (hb C.hby d3_90) rfl rfl q) ?_
          refine Wk.st (g' := (mkF m 93 #[.val (.ref g), .val (.int node), .val (.int p0), .val (.int p1), .val (.int p2), .val (.int p3), .val (.ref b2), .val (.int (3 : Int32))] [(.int (0 : Int32)), (.ref b2), (.int (1 : Int32))])) (fun X t q => XS.iconst X.here C.hx rfl (hb C.hby d3_92) q) ?_
          refine Wk.fLdI C F107 (i := 0) (by decide) (by decide) (by decide) (v := (.int (1 : Int32))) (by simp [up]) d3_93 ?_
          show Wk _ p l e _ s m _ below meth c n0 _ h105 1 4 (mkF m 94 #[.val (.ref g), .val (.int node), .val (.int p0), .val (.int p1), .val (.int p2), .val (.int p3), .val (.ref b2), .val (.int (3 : Int32))] [(.int (1 : Int32)), (.int (1 : Int32))])
          refine Wk.st (g' := (mkF m 97 #[.val (.ref g), .val (.int node), .val (.int p0), .val (.int p1), .val (.int p2), .val (.int p3), .val (.ref b2), .val (.int (3 : Int32))] [])) (fun X t q => XS.icmpNo X.here C.hx rfl (hb C.hby d3_94) rfl (XT.ii_ne_f (by decide)) q) ?_
          refine Wk.st (g' := (mkF m 99 #[.val (.ref g), .val (.int node), .val (.int p0), .val (.int p1), .val (.int p2), .val (.int p3), .val (.ref b2), .val (.int (3 : Int32))] [(.int (3 : Int32))])) (fun X t q => XS.iload X.here C.hx rfl (hb C.hby d3_97) rfl q) ?_
          refine Wk.st (g' := (mkF m 100 #[.val (.ref g), .val (.int node), .val (.int p0), .val (.int p1), .val (.int p2), .val (.int p3), .val (.ref b2), .val (.int (3 : Int32))] [(.int (2 : Int32)), (.int (3 : Int32))])) (fun X t q => XS.iconst X.here C.hx rfl (hb C.hby d3_99) q) ?_
          refine Wk.st (g' := (mkF m 103 #[.val (.ref g), .val (.int node), .val (.int p0), .val (.int p1), .val (.int p2), .val (.int p3), .val (.ref b2), .val (.int (3 : Int32))] [])) (fun X t q => XS.icmpNo X.here C.hx rfl (hb C.hby d3_100) rfl (XT.ii_lt_f (by decide)) q) ?_
          refine Wk.st (g' := (mkF m 104 #[.val (.ref g), .val (.int node), .val (.int p0), .val (.int p1), .val (.int p2), .val (.int p3), .val (.ref b2), .val (.int (3 : Int32))] [(.ref g)])) (fun X t q => XS.aloadN X.here C.hx rfl (hb C.hby d3_103) rfl rfl q) ?_
          refine Wk.st (g' := (mkF m 105 #[.val (.ref g), .val (.int node), .val (.int p0), .val (.int p1), .val (.int p2), .val (.int p3), .val (.ref b2), .val (.int (3 : Int32))] [(.int (1 : Int32)), (.ref g)])) (fun X t q => XS.iconst X.here C.hx rfl (hb C.hby d3_104) q) ?_
          refine Wk.fLdI C F108 (i := 1) (by decide) (by decide) (by simp [cn, (to_no hJ hb14), (to_yes hJ hb86), (to_yes hJ hb95), (to_yes hJ hb104)] <;> decide) (v := (.int (2 : Int32))) (by simp [gk, cn, (to_no hJ hb14), (to_yes hJ hb86), (to_yes hJ hb95), (to_yes hJ hb104)] <;> decide) d3_105 ?_
          show Wk _ p l e _ s m _ below meth c n0 _ h105 1 4 (mkF m 106 #[.val (.ref g), .val (.int node), .val (.int p0), .val (.int p1), .val (.int p2), .val (.int p3), .val (.ref b2), .val (.int (3 : Int32))] [(.int (2 : Int32))])
          refine Wk.st (g' := (mkF m 108 #[.val (.ref g), .val (.int node), .val (.int p0), .val (.int p1), .val (.int p2), .val (.int p3), .val (.ref b2), .val (.int (3 : Int32))] [(.ref b2), (.int (2 : Int32))])) (fun X t q => XS.aload X.here C.hx rfl (hb C.hby d3_106) rfl rfl q) ?_
          refine Wk.st (g' := (mkF m 109 #[.val (.ref g), .val (.int node), .val (.int p0), .val (.int p1), .val (.int p2), .val (.int p3), .val (.ref b2), .val (.int (3 : Int32))] [(.int (1 : Int32)), (.ref b2), (.int (2 : Int32))])) (fun X t q => XS.iconst X.here C.hx rfl (hb C.hby d3_108) q) ?_
          refine Wk.fLdI C F107 (i := 1) (by decide) (by decide) (by decide) (v := (.int (2 : Int32))) (by simp [up]) d3_109 ?_
          show Wk _ p l e _ s m _ below meth c n0 _ h105 1 4 (mkF m 110 #[.val (.ref g), .val (.int node), .val (.int p0), .val (.int p1), .val (.int p2), .val (.int p3), .val (.ref b2), .val (.int (3 : Int32))] [(.int (2 : Int32)), (.int (2 : Int32))])
          refine Wk.st (g' := (mkF m 113 #[.val (.ref g), .val (.int node), .val (.int p0), .val (.int p1), .val (.int p2), .val (.int p3), .val (.ref b2), .val (.int (3 : Int32))] [])) (fun X t q => XS.icmpNo X.here C.hx rfl (hb C.hby d3_110) rfl (XT.ii_ne_f (by decide)) q) ?_
          refine Wk.st (g' := (mkF m 115 #[.val (.ref g), .val (.int node), .val (.int p0), .val (.int p1), .val (.int p2), .val (.int p3), .val (.ref b2), .val (.int (3 : Int32))] [(.int (3 : Int32))])) (fun X t q => XS.iload X.here C.hx rfl (hb C.hby d3_113) rfl q) ?_
          refine Wk.st (g' := (mkF m 116 #[.val (.ref g), .val (.int node), .val (.int p0), .val (.int p1), .val (.int p2), .val (.int p3), .val (.ref b2), .val (.int (3 : Int32))] [(.int (3 : Int32)), (.int (3 : Int32))])) (fun X t q => XS.iconst X.here C.hx rfl (hb C.hby d3_115) q) ?_
          refine Wk.st (g' := (mkF m 119 #[.val (.ref g), .val (.int node), .val (.int p0), .val (.int p1), .val (.int p2), .val (.int p3), .val (.ref b2), .val (.int (3 : Int32))] [])) (fun X t q => XS.icmpNo X.here C.hx rfl (hb C.hby d3_116) rfl (XT.ii_lt_f (by decide)) q) ?_
          refine Wk.st (g' := (mkF m 120 #[.val (.ref g), .val (.int node), .val (.int p0), .val (.int p1), .val (.int p2), .val (.int p3), .val (.ref b2), .val (.int (3 : Int32))] [(.ref g)])) (fun X t q => XS.aloadN X.here C.hx rfl (hb C.hby d3_119) rfl rfl q) ?_
          refine Wk.st (g' := (mkF m 121 #[.val (.ref g), .val (.int node), .val (.int p0), .val (.int p1), .val (.int p2), .val (.int p3), .val (.ref b2), .val (.int (3 : Int32))] [(.int (2 : Int32)), (.ref g)])) (fun X t q => XS.iconst X.here C.hx rfl (hb C.hby d3_120) q) ?_
          refine Wk.fLdI C F108 (i := 2) (by decide) (by decide) (by simp [cn, (to_no hJ hb14), (to_yes hJ hb86), (to_yes hJ hb95), (to_yes hJ hb104)] <;> decide) (v := (.int (3 : Int32))) (by simp [gk, cn, (to_no hJ hb14), (to_yes hJ hb86), (to_yes hJ hb95), (to_yes hJ hb104)] <;> decide) d3_121 ?_
          show Wk _ p l e _ s m _ below meth c n0 _ h105 1 4 (mkF m 122 #[.val (.ref g), .val (.int node), .val (.int p0), .val (.int p1), .val (.int p2), .val (.int p3), .val (.ref b2), .val (.int (3 : Int32))] [(.int (3 : Int32))])
          refine Wk.st (g' := (mkF m 124 #[.val (.ref g), .val (.int node), .val (.int p0), .val (.int p1), .val (.int p2), .val (.int p3), .val (.ref b2), .val (.int (3 : Int32))] [(.ref b2), (.int (3 : Int32))])) (fun X t q => XS.aload X.here C.hx rfl (hb C.hby d3_122) rfl rfl q) ?_
          refine Wk.st (g' := (mkF m 125 #[.val (.ref g), .val (.int node), .val (.int p0), .val (.int p1), .val (.int p2), .val (.int p3), .val (.ref b2), .val (.int (3 : Int32))] [(.int (2 : Int32)), (.ref b2), (.int (3 : Int32))])) (fun X t q => XS.iconst X.here C.hx rfl (hb C.hby d3_124) q) ?_
          refine Wk.fLdI C F107 (i := 2) (by decide) (by decide) (by decide) (v := (.int (3 : Int32))) (by simp [up]) d3_125 ?_
          show Wk _ p l e _ s m _ below meth c n0 _ h105 1 4 (mkF m 126 #[.val (.ref g), .val (.int node), .val (.int p0), .val (.int p1), .val (.int p2), .val (.int p3), .val (.ref b2), .val (.int (3 : Int32))] [(.int (3 : Int32)), (.int (3 : Int32))])
          refine Wk.st (g' := (mkF m 129 #[.val (.ref g), .val (.int node), .val (.int p0), .val (.int p1), .val (.int p2), .val (.int p3), .val (.ref b2), .val (.int (3 : Int32))] [])) (fun X t q => XS.icmpNo X.here C.hx rfl (hb C.hby d3_126) rfl (XT.ii_ne_f (by decide)) q) ?_
          refine Wk.st (g' := (mkF m 131 #[.val (.ref g), .val (.int node), .val (.int p0), .val (.int p1), .val (.int p2), .val (.int p3), .val (.ref b2), .val (.int (3 : Int32))] [(.int (3 : Int32))])) (fun X t q => XS.iload X.here C.hx rfl (hb C.hby d3_129) rfl q) ?_
          refine Wk.st (g' := (mkF m 132 #[.val (.ref g), .val (.int node), .val (.int p0), .val (.int p1), .val (.int p2), .val (.int p3), .val (.ref b2), .val (.int (3 : Int32))] [(.int (4 : Int32)), (.int (3 : Int32))])) (fun X t q => XS.iconst X.here C.hx rfl (hb C.hby d3_131) q) ?_
          refine Wk.st (g' := (mkF m 145 #[.val (.ref g), .val (.int node), .val (.int p0), .val (.int p1), .val (.int p2), .val (.int p3), .val (.ref b2), .val (.int (3 : Int32))] [])) (fun X t q => XS.icmpYes X.here C.hx rfl (pc0 := 132) (pc' := 145) rfl (hb C.hby d3_132) rfl (XT.ii_lt_t (by decide)) (by decide) (by decide) q) ?_
          refine Wk.st (g' := (mkF m 146 #[.val (.ref g), .val (.int node), .val (.int p0), .val (.int p1), .val (.int p2), .val (.int p3), .val (.ref b2), .val (.int (3 : Int32))] [(.int (1 : Int32))])) (fun X t q => XS.iconst X.here C.hx rfl (hb C.hby d3_145) q) ?_
          refine Wk.st (g' := (mkF m 150 #[.val (.ref g), .val (.int node), .val (.int p0), .val (.int p1), .val (.int p2), .val (.int p3), .val (.ref b2), .val (.int (3 : Int32))] [(.int (1 : Int32))])) (fun X t q => XS.goto X.here C.hx rfl (pc0 := 146) (pc' := 150) rfl (hb C.hby d3_146) (by decide) (by decide) q) ?_
          exact Wk.retV C (t := .boolean) rfl rfl (Or.inl ⟨rfl, by simp, _, rfl⟩) d3_150 (by decide) (by decide) ⟨rfl, K112⟩
        · skip
          refine Wk.st (g' := (mkF m 72 #[.val (.ref g), .val (.int node), .val (.int p0), .val (.int p1), .val (.int p2), .val (.int p3), .val (.ref b2), .val (.int (2 : Int32))] [])) (fun X t q => XS.icmpYes X.here C.hx rfl (pc0 := 60) (pc' := 72) rfl (hb C.hby d3_60) rfl (XT.ii_ne_t hb104) (by decide) (by decide) q) ?_
          refine Wk.st (g' := (mkF m 73 #[.val (.ref g), .val (.int node), .val (.int p0), .val (.int p1), .val (.int p2), .val (.int p3), .val (.ref b2), .val (.int (2 : Int32))] [(.ref g)])) (fun X t q => XS.aloadN X.here C.hx rfl (hb C.hby d3_72) rfl rfl q) ?_
          refine Wk.fLen C F99 (z := (2 : Int32)) (by simp [cn, (to_no hJ hb14), (to_yes hJ hb86), (to_yes hJ hb95), (to_no hJ hb104)] <;> decide) d3_73 ?_
          show Wk _ p l e _ s m _ below meth c n0 _ h96 1 4 (mkF m 74 #[.val (.ref g), .val (.int node), .val (.int p0), .val (.int p1), .val (.int p2), .val (.int p3), .val (.ref b2), .val (.int (2 : Int32))] [(.int (2 : Int32))])
          refine Wk.st (g' := (mkF m 76 #[.val (.ref g), .val (.int node), .val (.int p0), .val (.int p1), .val (.int p2), .val (.int p3), .val (.ref b2), .val (.int (2 : Int32))] [(.int (2 : Int32)), (.int (2 : Int32))])) (fun X t q => XS.iload X.here C.hx rfl (hb C.hby d3_74) rfl q) ?_
          refine Wk.st (g' := (mkF m 81 #[.val (.ref g), .val (.int node), .val (.int p0), .val (.int p1), .val (.int p2), .val (.int p3), .val (.ref b2), .val (.int (2 : Int32))] [])) (fun X t q => XS.icmpYes X.here C.hx rfl (pc0 := 76) (pc' := 81) rfl (hb C.hby d3_76) rfl (XT.ii_eq_t (by decide)) (by decide) (by decide) q) ?_
          refine Wk.st (g' := (mkF m 83 #[.val (.ref g), .val (.int node), .val (.int p0), .val (.int p1), .val (.int p2), .val (.int p3), .val (.ref b2), .val (.int (2 : Int32))] [(.int (2 : Int32))])) (fun X t q => XS.iload X.here C.hx rfl (hb C.hby d3_81) rfl q) ?_
          refine Wk.st (g' := (mkF m 84 #[.val (.ref g), .val (.int node), .val (.int p0), .val (.int p1), .val (.int p2), .val (.int p3), .val (.ref b2), .val (.int (2 : Int32))] [(.int (1 : Int32)), (.int (2 : Int32))])) (fun X t q => XS.iconst X.here C.hx rfl (hb C.hby d3_83) q) ?_
          refine Wk.st (g' := (mkF m 87 #[.val (.ref g), .val (.int node), .val (.int p0), .val (.int p1), .val (.int p2), .val (.int p3), .val (.ref b2), .val (.int (2 : Int32))] [])) (fun X t q => XS.icmpNo X.here C.hx rfl (hb C.hby d3_84) rfl (XT.ii_lt_f (by decide)) q) ?_
          refine Wk.st (g' := (mkF m 88 #[.val (.ref g), .val (.int node), .val (.int p0), .val (.int p1), .val (.int p2), .val (.int p3), .val (.ref b2), .val (.int (2 : Int32))] [(.ref g)])) (fun X t q => XS.aloadN X.here C.hx rfl (hb C.hby d3_87) rfl rfl q) ?_
          refine Wk.st (g' := (mkF m 89 #[.val (.ref g), .val (.int node), .val (.int p0), .val (.int p1), .val (.int p2), .val (.int p3), .val (.ref b2), .val (.int (2 : Int32))] [(.int (0 : Int32)), (.ref g)])) (fun X t q => XS.iconst X.here C.hx rfl (hb C.hby d3_88) q) ?_
          refine Wk.fLdI C F99 (i := 0) (by decide) (by decide) (by simp [cn, (to_no hJ hb14), (to_yes hJ hb86), (to_yes hJ hb95), (to_no hJ hb104)] <;> decide) (v := (.int (1 : Int32))) (by simp [gk, cn, (to_no hJ hb14), (to_yes hJ hb86), (to_yes hJ hb95), (to_no hJ hb104)] <;> decide) d3_89 ?_
          show Wk _ p l e _ s m _ below meth c n0 _ h96 1 4 (mkF m 90 #[.val (.ref g), .val (.int node), .val (.int p0), .val (.int p1), .val (.int p2), .val (.int p3), .val (.ref b2), .val (.int (2 : Int32))] [(.int (1 : Int32))])
          refine Wk.st (g' := (mkF m 92 #[.val (.ref g), .val (.int node), .val (.int p0), .val (.int p1), .val (.int p2), .val (.int p3), .val (.ref b2), .val (.int (2 : Int32))] [(.ref b2), (.int (1 : Int32))])) (fun X t q => XS.aload X.here C.hx rfl (hb C.hby d3_90) rfl rfl q) ?_
          refine Wk.st (g' := (mkF m 93 #[.val (.ref g), .val (.int node), .val (.int p0), .val (.int p1), .val (.int p2), .val (.int p3), .val (.ref b2), .val (.int (2 : Int32))] [(.int (0 : Int32)), (.ref b2), (.int (1 : Int32))])) (fun X t q => XS.iconst X.here C.hx rfl (hb C.hby d3_92) q) ?_
          refine Wk.fLdI C F98 (i := 0) (by decide) (by decide) (by decide) (v := (.int (1 : Int32))) (by simp [up]) d3_93 ?_
          show Wk _ p l e _ s m _ below meth c n0 _ h96 1 4 (mkF m 94 #[.val (.ref g), .val (.int node), .val (.int p0), .val (.int p1), .val (.int p2), .val (.int p3), .val (.ref b2), .val (.int (2 : Int32))] [(.int (1 : Int32)), (.int (1 : Int32))])
          refine Wk.st (g' := (mkF m 97 #[.val (.ref g), .val (.int node), .val (.int p0), .val (.int p1), .val (.int p2), .val (.int p3), .val (.ref b2), .val (.int (2 : Int32))] [])) (fun X t q => XS.icmpNo X.here C.hx rfl (hb C.hby d3_94) rfl (XT.ii_ne_f (by decide)) q) ?_
          refine Wk.st (g' := (mkF m 99 #[.val (.ref g), .val (.int node), .val (.int p0), .val (.int p1), .val (.int p2), .val (.int p3), .val (.ref b2), .val (.int (2 : Int32))] [(.int (2 : Int32))])) (fun X t q => XS.iload X.here C.hx rfl (hb C.hby d3_97) rfl q) ?_
          refine Wk.st (g' := (mkF m 100 #[.val (.ref g), .val (.int node), .val (.int p0), .val (.int p1), .val (.int p2), .val (.int p3), .val (.ref b2), .val (.int (2 : Int32))] [(.int (2 : Int32)), (.int (2 : Int32))])) (fun X t q => XS.iconst X.here C.hx rfl (hb C.hby d3_99) q) ?_
          refine Wk.st (g' := (mkF m 103 #[.val (.ref g), .val (.int node), .val (.int p0), .val (.int p1), .val (.int p2), .val (.int p3), .val (.ref b2), .val (.int (2 : Int32))] [])) (fun X t q => XS.icmpNo X.here C.hx rfl (hb C.hby d3_100) rfl (XT.ii_lt_f (by decide)) q) ?_
          refine Wk.st (g' := (mkF m 104 #[.val (.ref g), .val (.int node), .val (.int p0), .val (.int p1), .val (.int p2), .val (.int p3), .val (.ref b2), .val (.int (2 : Int32))] [(.ref g)])) (fun X t q => XS.aloadN X.here C.hx rfl (hb C.hby d3_103) rfl rfl q) ?_
          refine Wk.st (g' := (mkF m 105 #[.val (.ref g), .val (.int node), .val (.int p0), .val (.int p1), .val (.int p2), .val (.int p3), .val (.ref b2), .val (.int (2 : Int32))] [(.int (1 : Int32)), (.ref g)])) (fun X t q => XS.iconst X.here C.hx rfl (hb C.hby d3_104) q) ?_
          refine Wk.fLdI C F99 (i := 1) (by decide) (by decide) (by simp [cn, (to_no hJ hb14), (to_yes hJ hb86), (to_yes hJ hb95), (to_no hJ hb104)] <;> decide) (v := (.int (2 : Int32))) (by simp [gk, cn, (to_no hJ hb14), (to_yes hJ hb86), (to_yes hJ hb95), (to_no hJ hb104)] <;> decide) d3_105 ?_
          show Wk _ p l e _ s m _ below meth c n0 _ h96 1 4 (mkF m 106 #[.val (.ref g), .val (.int node), .val (.int p0), .val (.int p1), .val (.int p2), .val (.int p3), .val (.ref b2), .val (.int (2 : Int32))] [(.int (2 : Int32))])
          refine Wk.st (g' := (mkF m 108 #[.val (.ref g), .val (.int node), .val (.int p0), .val (.int p1), .val (.int p2), .val (.int p3), .val (.ref b2), .val (.int (2 : Int32))] [(.ref b2), (.int (2 : Int32))])) (fun X t q => XS.aload X.here C.hx rfl (hb C.hby d3_106) rfl rfl q) ?_
          refine Wk.st (g' := (mkF m 109 #[.val (.ref g), .val (.int node), .val (.int p0), .val (.int p1), .val (.int p2), .val (.int p3), .val (.ref b2), .val (.int (2 : Int32))] [(.int (1 : Int32)), (.ref b2), (.int (2 : Int32))])) (fun X t q => XS.iconst X.here C.hx rfl (hb C.hby d3_108) q) ?_
          refine Wk.fLdI C F98 (i := 1) (by decide) (by decide) (by decide) (v := (.int (2 : Int32))) (by simp [up]) d3_109 ?_
          show Wk _ p l e _ s m _ below meth c n0 _ h96 1 4 (mkF m 110 #[.val (.ref g), .val (.int node), .val (.int p0), .val (.int p1), .val (.int p2), .val (.int p3), .val (.ref b2), .val (.int (2 : Int32))] [(.int (2 : Int32)), (.int (2 : Int32))])
          refine Wk.st (g' := (mkF m 113 #[.val (.ref g), .val (.int node), .val (.int p0), .val (.int p1), .val (.int p2), .val (.int p3), .val (.ref b2), .val (.int (2 : Int32))] [])) (fun X t q => XS.icmpNo X.here C.hx rfl (hb C.hby d3_110) rfl (XT.ii_ne_f (by decide)) q) ?_
          refine Wk.st (g' := (mkF m 115 #[.val (.ref g), .val (.int node), .val (.int p0), .val (.int p1), .val (.int p2), .val (.int p3), .val (.ref b2), .val (.int (2 : Int32))] [(.int (2 : Int32))])) (fun X t q => XS.iload X.here C.hx rfl (hb C.hby d3_113) rfl q) ?_
          refine Wk.st (g' := (mkF m 116 #[.val (.ref g), .val (.int node), .val (.int p0), .val (.int p1), .val (.int p2), .val (.int p3), .val (.ref b2), .val (.int (2 : Int32))] [(.int (3 : Int32)), (.int (2 : Int32))])) (fun X t q => XS.iconst X.here C.hx rfl (hb C.hby d3_115) q) ?_
          refine Wk.st (g' := (mkF m 129 #[.val (.ref g), .val (.int node), .val (.int p0), .val (.int p1), .val (.int p2), .val (.int p3), .val (.ref b2), .val (.int (2 : Int32))] [])) (fun X t q => XS.icmpYes X.here C.hx rfl (pc0 := 116) (pc' := 129) rfl (hb C.hby d3_116) rfl (XT.ii_lt_t (by decide)) (by decide) (by decide) q) ?_
          refine Wk.st (g' := (mkF m 131 #[.val (.ref g), .val (.int node), .val (.int p0), .val (.int p1), .val (.int p2), .val (.int p3), .val (.ref b2), .val (.int (2 : Int32))] [(.int (2 : Int32))])) (fun X t q => XS.iload X.here C.hx rfl (hb C.hby d3_129) rfl q) ?_
          refine Wk.st (g' := (mkF m 132 #[.val (.ref g), .val (.int node), .val (.int p0), .val (.int p1), .val (.int p2), .val (.int p3), .val (.ref b2), .val (.int (2 : Int32))] [(.int (4 : Int32)), (.int (2 : Int32))])) (fun X t q => XS.iconst X.here C.hx rfl (hb C.hby d3_131) q) ?_
          refine Wk.st (g' := (mkF m 145 #[.val (.ref g), .val (.int node), .val (.int p0), .val (.int p1), .val (.int p2), .val (.int p3), .val (.ref b2), .val (.int (2 : Int32))] [])) (fun X t q => XS.icmpYes X.here C.hx rfl (pc0 := 132) (pc' := 145) rfl (hb C.hby d3_132) rfl (XT.ii_lt_t (by decide)) (by decide) (by decide) q) ?_
          refine Wk.st (g' := (mkF m 146 #[.val (.ref g), .val (.int node), .val (.int p0), .val (.int p1), .val (.int p2), .val (.int p3), .val (.ref b2), .val (.int (2 : Int32))] [(.int (1 : Int32))])) (fun X t q => XS.iconst X.here C.hx rfl (hb C.hby d3_145) q) ?_
          refine Wk.st (g' := (mkF m 150 #[.val (.ref g), .val (.int node), .val (.int p0), .val (.int p1), .val (.int p2), .val (.int p3), .val (.ref b2), .val (.int (2 : Int32))] [(.int (1 : Int32))])) (fun X t q => XS.goto X.here C.hx rfl (pc0 := 146) (pc' := 150) rfl (hb C.hby d3_146) (by decide) (by decide) q) ?_
          exact Wk.retV C (t := .boolean) rfl rfl (Or.inl ⟨rfl, by simp, _, rfl⟩) d3_150 (by decide) (by decide) ⟨rfl, K103⟩
      · skip
        refine Wk.st (g' := (mkF m 57 #[.val (.ref g), .val (.int node), .val (.int p0), .val (.int p1), .val (.int p2), .val (.int p3), .val (.ref b2), .val (.int (1 : Int32))] [])) (fun X t q => XS.icmpYes X.here C.hx rfl (pc0 := 45) (pc' := 57) rfl (hb C.hby d3_45) rfl (XT.ii_ne_t hb95) (by decide) (by decide) q) ?_
        refine Wk.st (g' := (mkF m 59 #[.val (.ref g), .val (.int node), .val (.int p0), .val (.int p1), .val (.int p2), .val (.int p3), .val (.ref b2), .val (.int (1 : Int32))] [(.int p3)])) (fun X t q => XS.iload X.here C.hx rfl (hb C.hby d3_57) rfl q) ?_
        refine Wk.st (g' := (mkF m 60 #[.val (.ref g), .val (.int node), .val (.int p0), .val (.int p1), .val (.int p2), .val (.int p3), .val (.ref b2), .val (.int (1 : Int32))] [(.int node), (.int p3)])) (fun X t q => XS.iloadN X.here C.hx rfl (hb C.hby d3_59) rfl q) ?_
        by_cases hb113 : p3 = node
        · skip
          refine Wk.st (g' := (mkF m 63 #[.val (.ref g), .val (.int node), .val (.int p0), .val (.int p1), .val (.int p2), .val (.int p3), .val (.ref b2), .val (.int (1 : Int32))] [])) (fun X t q => XS.icmpNo X.here C.hx rfl (hb C.hby d3_60) rfl (XT.ii_ne_f hb113) q) ?_
          refine Wk.st (g' := (mkF m 65 #[.val (.ref g), .val (.int node), .val (.int p0), .val (.int p1), .val (.int p2), .val (.int p3), .val (.ref b2), .val (.int (1 : Int32))] [(.ref b2)])) (fun X t q => XS.aload X.here C.hx rfl (hb C.hby d3_63) rfl rfl q) ?_
          refine Wk.st (g' := (mkF m 67 #[.val (.ref g), .val (.int node), .val (.int p0), .val (.int p1), .val (.int p2), .val (.int p3), .val (.ref b2), .val (.int (1 : Int32))] [(.int (1 : Int32)), (.ref b2)])) (fun X t q => XS.iload X.here C.hx rfl (hb C.hby d3_65) rfl q) ?_
          refine Wk.st (g' := (mkF m 68 #[.val (.ref g), .val (.int node), .val (.int p0), .val (.int p1), .val (.int p2), .val (.int p3), .val (.ref b2), .val (.int (1 : Int32))] [(.int (3 : Int32)), (.int (1 : Int32)), (.ref b2)])) (fun X t q => XS.iconst X.here C.hx rfl (hb C.hby d3_67) q) ?_
          refine Wk.fStI C F89 (i := 1) (by decide) (by decide) (by decide) ge8 d3_68 ?_
          intro h114 W115 F116
          have F117 : Fa Z h114 g .int (cn [p3, p2, p1, p0] J).toNatClampNeg (fun t => (.int (gk [p3, p2, p1, p0] J t))) := F90.other W115 ne7
          have F118 : Exa Z h114 b2 "[I" := F91.wr W115
          have sz119 : n0 ≤ h114.size := Nat.le_trans sz92 (Nat.le_of_eq W115.size.symm)
          have sy120 : h0.size ≤ h114.size := Nat.le_trans sy93 (Nat.le_of_eq W115.size.symm)
          have K121 := K94.wr W115 (Or.inr gz9)
          show Wk _ p l e _ s m _ below meth c n0 _ h114 1 4 (mkF m 69 #[.val (.ref g), .val (.int node), .val (.int p0), .val (.int p1), .val (.int p2), .val (.int p3), .val (.ref b2), .val (.int (1 : Int32))] [])
          refine Wk.st (g' := (mkF m 72 #[.val (.ref g), .val (.int node), .val (.int p0), .val (.int p1), .val (.int p2), .val (.int p3), .val (.ref b2), .val (.int (2 : Int32))] [])) (fun X t q => XS.iinc X.here C.hx rfl (hb C.hby d3_69) rfl (l' := #[.val (.ref g), .val (.int node), .val (.int p0), .val (.int p1), .val (.int p2), .val (.int p3), .val (.ref b2), .val (.int (2 : Int32))]) rfl q) ?_
          refine Wk.st (g' := (mkF m 73 #[.val (.ref g), .val (.int node), .val (.int p0), .val (.int p1), .val (.int p2), .val (.int p3), .val (.ref b2), .val (.int (2 : Int32))] [(.ref g)])) (fun X t q => XS.aloadN X.here C.hx rfl (hb C.hby d3_72) rfl rfl q) ?_
          refine Wk.fLen C F117 (z := (2 : Int32)) (by simp [cn, (to_no hJ hb14), (to_yes hJ hb86), (to_no hJ hb95), (to_yes hJ hb113)] <;> decide) d3_73 ?_
          show Wk _ p l e _ s m _ below meth c n0 _ h114 1 4 (mkF m 74 #[.val (.ref g), .val (.int node), .val (.int p0), .val (.int p1), .val (.int p2), .val (.int p3), .val (.ref b2), .val (.int (2 : Int32))] [(.int (2 : Int32))])
          refine Wk.st (g' := (mkF m 76 #[.val (.ref g), .val (.int node), .val (.int p0), .val (.int p1), .val (.int p2), .val (.int p3), .val (.ref b2), .val (.int (2 : Int32))] [(.int (2 : Int32)), (.int (2 : Int32))])) (fun X t q => XS.iload X.here C.hx rfl (hb C.hby d3_74) rfl q) ?_
          refine Wk.st (g' := (mkF m 81 #[.val (.ref g), .val (.int node), .val (.int p0), .val (.int p1), .val (.int p2), .val (.int p3), .val (.ref b2), .val (.int (2 : Int32))] [])) (fun X t q => XS.icmpYes X.here C.hx rfl (pc0 := 76) (pc' := 81) rfl (hb C.hby d3_76) rfl (XT.ii_eq_t (by decide)) (by decide) (by decide) q) ?_
          refine Wk.st (g' := (mkF m 83 #[.val (.ref g), .val (.int node), .val (.int p0), .val (.int p1), .val (.int p2), .val (.int p3), .val (.ref b2), .val (.int (2 : Int32))] [(.int (2 : Int32))])) (fun X t q => XS.iload X.here C.hx rfl (hb C.hby d3_81) rfl q) ?_
          refine Wk.st (g' := (mkF m 84 #[.val (.ref g), .val (.int node), .val (.int p0), .val (.int p1), .val (.int p2), .val (.int p3), .val (.ref b2), .val (.int (2 : Int32))] [(.int (1 : Int32)), (.int (2 : Int32))])) (fun X t q => XS.iconst X.here C.hx rfl (hb C.hby d3_83) q) ?_
          refine Wk.st (g' := (mkF m 87 #[.val (.ref g), .val (.int node), .val (.int p0), .val (.int p1), .val (.int p2), .val (.int p3), .val (.ref b2), .val (.int (2 : Int32))] [])) (fun X t q => XS.icmpNo X.here C.hx rfl (hb C.hby d3_84) rfl (XT.ii_lt_f (by decide)) q) ?_
          refine Wk.st (g' := (mkF m 88 #[.val (.ref g), .val (.int node), .val (.int p0), .val (.int p1), .val (.int p2), .val (.int p3), .val (.ref b2), .val (.int (2 : Int32))] [(.ref g)])) (fun X t q => XS.aloadN X.here C.hx rfl (hb C.hby d3_87) rfl rfl q) ?_
          refine Wk.st (g' := (mkF m 89 #[.val (.ref g), .val (.int node), .val (.int p0), .val (.int p1), .val (.int p2), .val (.int p3), .val (.ref b2), .val (.int (2 : Int32))] [(.int (0 : Int32)), (.ref g)])) (fun X t q => XS.iconst X.here C.hx rfl (hb C.hby d3_88) q) ?_
          refine Wk.fLdI C F117 (i := 0) (by decide) (by decide) (by simp [cn, (to_no hJ hb14), (to_yes hJ hb86), (to_no hJ hb95), (to_yes hJ hb113)] <;> decide) (v := (.int (1 : Int32))) (by simp [gk, cn, (to_no hJ hb14), (to_yes hJ hb86), (to_no hJ hb95), (to_yes hJ hb113)] <;> decide) d3_89 ?_
          show Wk _ p l e _ s m _ below meth c n0 _ h114 1 4 (mkF m 90 #[.val (.ref g), .val (.int node), .val (.int p0), .val (.int p1), .val (.int p2), .val (.int p3), .val (.ref b2), .val (.int (2 : Int32))] [(.int (1 : Int32))])
          refine Wk.st (g' := (mkF m 92 #[.val (.ref g), .val (.int node), .val (.int p0), .val (.int p1), .val (.int p2), .val (.int p3), .val (.ref b2), .val (.int (2 : Int32))] [(.ref b2), (.int (1 : Int32))])) (fun X t q => XS.aload X.here C.hx rfl (hb C.hby d3_90) rfl rfl q) ?_
          refine Wk.st (g' := (mkF m 93 #[.val (.ref g), .val (.int node), .val (.int p0), .val (.int p1), .val (.int p2), .val (.int p3), .val (.ref b2), .val (.int (2 : Int32))] [(.int (0 : Int32)), (.ref b2), (.int (1 : Int32))])) (fun X t q => XS.iconst X.here C.hx rfl (hb C.hby d3_92) q) ?_
          refine Wk.fLdI C F116 (i := 0) (by decide) (by decide) (by decide) (v := (.int (1 : Int32))) (by simp [up]) d3_93 ?_
          show Wk _ p l e _ s m _ below meth c n0 _ h114 1 4 (mkF m 94 #[.val (.ref g), .val (.int node), .val (.int p0), .val (.int p1), .val (.int p2), .val (.int p3), .val (.ref b2), .val (.int (2 : Int32))] [(.int (1 : Int32)), (.int (1 : Int32))])
          refine Wk.st (g' := (mkF m 97 #[.val (.ref g), .val (.int node), .val (.int p0), .val (.int p1), .val (.int p2), .val (.int p3), .val (.ref b2), .val (.int (2 : Int32))] [])) (fun X t q => XS.icmpNo X.here C.hx rfl (hb C.hby d3_94) rfl (XT.ii_ne_f (by decide)) q) ?_
          refine Wk.st (g' := (mkF m 99 #[.val (.ref g), .val (.int node), .val (.int p0), .val (.int p1), .val (.int p2), .val (.int p3), .val (.ref b2), .val (.int (2 : Int32))] [(.int (2 : Int32))])) (fun X t q => XS.iload X.here C.hx rfl (hb C.hby d3_97) rfl q) ?_
          refine Wk.st (g' := (mkF m 100 #[.val (.ref g), .val (.int node), .val (.int p0), .val (.int p1), .val (.int p2), .val (.int p3), .val (.ref b2), .val (.int (2 : Int32))] [(.int (2 : Int32)), (.int (2 : Int32))])) (fun X t q => XS.iconst X.here C.hx rfl (hb C.hby d3_99) q) ?_
          refine Wk.st (g' := (mkF m 103 #[.val (.ref g), .val (.int node), .val (.int p0), .val (.int p1), .val (.int p2), .val (.int p3), .val (.ref b2), .val (.int (2 : Int32))] [])) (fun X t q => XS.icmpNo X.here C.hx rfl (hb C.hby d3_100) rfl (XT.ii_lt_f (by decide)) q) ?_
          refine Wk.st (g' := (mkF m 104 #[.val (.ref g), .val (.int node), .val (.int p0), .val (.int p1), .val (.int p2), .val (.int p3), .val (.ref b2), .val (.int (2 : Int32))] [(.ref g)])) (fun X t q => XS.aloadN X.here C.hx rfl (hb C.hby d3_103) rfl rfl q) ?_
          refine Wk.st (g' := (mkF m 105 #[.val (.ref g), .val (.int node), .val (.int p0), .val (.int p1), .val (.int p2), .val (.int p3), .val (.ref b2), .val (.int (2 : Int32))] [(.int (1 : Int32)), (.ref g)])) (fun X t q => XS.iconst X.here C.hx rfl (hb C.hby d3_104) q) ?_
          refine Wk.fLdI C F117 (i := 1) (by decide) (by decide) (by simp [cn, (to_no hJ hb14), (to_yes hJ hb86), (to_no hJ hb95), (to_yes hJ hb113)] <;> decide) (v := (.int (3 : Int32))) (by simp [gk, cn, (to_no hJ hb14), (to_yes hJ hb86), (to_no hJ hb95), (to_yes hJ hb113)] <;> decide) d3_105 ?_
          show Wk _ p l e _ s m _ below meth c n0 _ h114 1 4 (mkF m 106 #[.val (.ref g), .val (.int node), .val (.int p0), .val (.int p1), .val (.int p2), .val (.int p3), .val (.ref b2), .val (.int (2 : Int32))] [(.int (3 : Int32))])
          refine Wk.st (g' := (mkF m 108 #[.val (.ref g), .val (.int node), .val (.int p0), .val (.int p1), .val (.int p2), .val (.int p3), .val (.ref b2), .val (.int (2 : Int32))] [(.ref b2), (.int (3 : Int32))])) (fun X t q => XS.aload X.here C.hx rfl (hb C.hby d3_106) rfl rfl q) ?_
          refine Wk.st (g' := (mkF m 109 #[.val (.ref g), .val (.int node), .val (.int p0), .val (.int p1), .val (.int p2), .val (.int p3), .val (.ref b2), .val (.int (2 : Int32))] [(.int (1 : Int32)), (.ref b2), (.int (3 : Int32))])) (fun X t q => XS.iconst X.here C.hx rfl (hb C.hby d3_108) q) ?_
          refine Wk.fLdI C F116 (i := 1) (by decide) (by decide) (by decide) (v := (.int (3 : Int32))) (by simp [up]) d3_109 ?_
          show Wk _ p l e _ s m _ below meth c n0 _ h114 1 4 (mkF m 110 #[.val (.ref g), .val (.int node), .val (.int p0), .val (.int p1), .val (.int p2), .val (.int p3), .val (.ref b2), .val (.int (2 : Int32))] [(.int (3 : Int32)), (.int (3 : Int32))])
          refine Wk.st (g' := (mkF m 113 #[.val (.ref g), .val (.int node), .val (.int p0), .val (.int p1), .val (.int p2), .val (.int p3), .val (.ref b2), .val (.int (2 : Int32))] [])) (fun X t q => XS.icmpNo X.here C.hx rfl (hb C.hby d3_110) rfl (XT.ii_ne_f (by decide)) q) ?_
          refine Wk.st (g' := (mkF m 115 #[.val (.ref g), .val (.int node), .val (.int p0), .val (.int p1), .val (.int p2), .val (.int p3), .val (.ref b2), .val (.int (2 : Int32))] [(.int (2 : Int32))])) (fun X t q => XS.iload X.here C.hx rfl (hb C.hby d3_113) rfl q) ?_
          refine Wk.st (g' := (mkF m 116 #[.val (.ref g), .val (.int node), .val (.int p0), .val (.int p1), .val (.int p2), .val (.int p3), .val (.ref b2), .val (.int (2 : Int32))] [(.int (3 : Int32)), (.int (2 : Int32))])) (fun X t q => XS.iconst X.here C.hx rfl (hb C.hby d3_115) q) ?_
          refine Wk.st (g' := (mkF m 129 #[.val (.ref g), .val (.int node), .val (.int p0), .val (.int p1), .val (.int p2), .val (.int p3), .val (.ref b2), .val (.int (2 : Int32))] [])) (fun X t q => XS.icmpYes X.here C.hx rfl (pc0 := 116) (pc' := 129) rfl (hb C.hby d3_116) rfl (XT.ii_lt_t (by decide)) (by decide) (by decide) q) ?_
          refine Wk.st (g' := (mkF m 131 #[.val (.ref g), .val (.int node), .val (.int p0), .val (.int p1), .val (.int p2), .val (.int p3), .val (.ref b2), .val (.int (2 : Int32))] [(.int (2 : Int32))])) (fun X t q => XS.iload X.here C.hx rfl (hb C.hby d3_129) rfl q) ?_
          refine Wk.st (g' := (mkF m 132 #[.val (.ref g), .val (.int node), .val (.int p0), .val (.int p1), .val (.int p2), .val (.int p3), .val (.ref b2), .val (.int (2 : Int32))] [(.int (4 : Int32)), (.int (2 : Int32))])) (fun X t q => XS.iconst X.here C.hx rfl (hb C.hby d3_131) q) ?_
          refine Wk.st (g' := (mkF m 145 #[.val (.ref g), .val (.int node), .val (.int p0), .val (.int p1), .val (.int p2), .val (.int p3), .val (.ref b2), .val (.int (2 : Int32))] [])) (fun X t q => XS.icmpYes X.here C.hx rfl (pc0 := 132) (pc' := 145) rfl (hb C.hby d3_132) rfl (XT.ii_lt_t (by decide)) (by decide) (by decide) q) ?_
          refine Wk.st (g' := (mkF m 146 #[.val (.ref g), .val (.int node), .val (.int p0), .val (.int p1), .val (.int p2), .val (.int p3), .val (.ref b2), .val (.int (2 : Int32))] [(.int (1 : Int32))])) (fun X t q => XS.iconst X.here C.hx rfl (hb C.hby d3_145) q) ?_
          refine Wk.st (g' := (mkF m 150 #[.val (.ref g), .val (.int node), .val (.int p0), .val (.int p1), .val (.int p2), .val (.int p3), .val (.ref b2), .val (.int (2 : Int32))] [(.int (1 : Int32))])) (fun X t q => XS.goto X.here C.hx rfl (pc0 := 146) (pc' := 150) rfl (hb C.hby d3_146) (by decide) (by decide) q) ?_
          exact Wk.retV C (t := .boolean) rfl rfl (Or.inl ⟨rfl, by simp, _, rfl⟩) d3_150 (by decide) (by decide) ⟨rfl, K121⟩
        · skip
          refine Wk.st (g' := (mkF m 72 #[.val (.ref g), .val (.int node), .val (.int p0), .val (.int p1), .val (.int p2), .val (.int p3), .val (.ref b2), .val (.int (1 : Int32))] [])) (fun X t q => XS.icmpYes X.here C.hx rfl (pc0 := 60) (pc' := 72) rfl (hb C.hby d3_60) rfl (XT.ii_ne_t hb113) (by decide) (by decide) q) ?_
          refine Wk.st (g' := (mkF m 73 #[.val (.ref g), .val (.int node), .val (.int p0), .val (.int p1), .val (.int p2), .val (.int p3), .val (.ref b2), .val (.int (1 : Int32))] [(.ref g)])) (fun X t q => XS.aloadN X.here C.hx rfl (hb C.hby d3_72) rfl rfl q) ?_
          refine Wk.fLen C F90 (z := (1 : Int32)) (by simp [cn, (to_no hJ hb14), (to_yes hJ hb86), (to_no hJ hb95), (to_no hJ hb113)] <;> decide) d3_73 ?_
          show Wk _ p l e _ s m _ below meth c n0 _ h87 1 4 (mkF m 74 #[.val (.ref g), .val (.int node), .val (.int p0), .val (.int p1), .val (.int p2), .val (.int p3), .val (.ref b2), .val (.int (1 : Int32))] [(.int (1 : Int32))])
          refine Wk.st (g' := (mkF m 76 #[.val (.ref g), .val (.int node), .val (.int p0), .val (.int p1), .val (.int p2), .val (.int p3), .val (.ref b2), .val (.int (1 : Int32))] [(.int (1 : Int32)), (.int (1 : Int32))])) (fun X t q => XS.iload X.here C.hx rfl (hb C.hby d3_74) rfl q) ?_
          refine Wk.st (g' := (mkF m 81 #[.val (.ref g), .val (.int node), .val (.int p0), .val (.int p1), .val (.int p2), .val (.int p3), .val (.ref b2), .val (.int (1 : Int32))] [])) (fun X t q => XS.icmpYes X.here C.hx rfl (pc0 := 76) (pc' := 81) rfl (hb C.hby d3_76) rfl (XT.ii_eq_t (by decide)) (by decide) (by decide) q) ?_
          refine Wk.st (g' := (mkF m 83 #[.val (.ref g), .val (.int node), .val (.int p0), .val (.int p1), .val (.int p2), .val (.int p3), .val (.ref b2), .val (.int (1 : Int32))] [(.int (1 : Int32))])) (fun X t q => XS.iload X.here C.hx rfl (hb C.hby d3_81) rfl q) ?_
          refine Wk.st (g' := (mkF m 84 #[.val (.ref g), .val (.int node), .val (.int p0), .val (.int p1), .val (.int p2), .val (.int p3), .val (.ref b2), .val (.int (1 : Int32))] [(.int (1 : Int32)), (.int (1 : Int32))])) (fun X t q => XS.iconst X.here C.hx rfl (hb C.hby d3_83) q) ?_
          refine Wk.st (g' := (mkF m 87 #[.val (.ref g), .val (.int node), .val (.int p0), .val (.int p1), .val (.int p2), .val (.int p3), .val (.ref b2), .val (.int (1 : Int32))] [])) (fun X t q => XS.icmpNo X.here C.hx rfl (hb C.hby d3_84) rfl (XT.ii_lt_f (by decide)) q) ?_
          refine Wk.st (g' := (mkF m 88 #[.val (.ref g), .val (.int node), .val (.int p0), .val (.int p1), .val (.int p2), .val (.int p3), .val (.ref b2), .val (.int (1 : Int32))] [(.ref g)])) (fun X t q => XS.aloadN X.here C.hx rfl (hb C.hby d3_87) rfl rfl q) ?_
          refine Wk.st (g' := (mkF m 89 #[.val (.ref g), .val (.int node), .val (.int p0), .val (.int p1), .val (.int p2), .val (.int p3), .val (.ref b2), .val (.int (1 : Int32))] [(.int (0 : Int32)), (.ref g)])) (fun X t q => XS.iconst X.here C.hx rfl (hb C.hby d3_88) q) ?_
          refine Wk.fLdI C F90 (i := 0) (by decide) (by decide) (by simp [cn, (to_no hJ hb14), (to_yes hJ hb86), (to_no hJ hb95), (to_no hJ hb113)] <;> decide) (v := (.int (1 : Int32))) (by simp [gk, cn, (to_no hJ hb14), (to_yes hJ hb86), (to_no hJ hb95), (to_no hJ hb113)] <;> decide) d3_89 ?_
          show Wk _ p l e _ s m _ below meth c n0 _ h87 1 4 (mkF m 90 #[.val (.ref g), .val (.int node), .val (.int p0), .val (.int p1), .val (.int p2), .val (.int p3), .val (.ref b2), .val (.int (1 : Int32))] [(.int (1 : Int32))])
          refine Wk.st (g' := (mkF m 92 #[.val (.ref g), .val (.int node), .val (.int p0), .val (.int p1), .val (.int p2), .val (.int p3), .val (.ref b2), .val (.int (1 : Int32))] [(.ref b2), (.int (1 : Int32))])) (fun X t q => XS.aload X.here C.hx rfl (hb C.hby d3_90) rfl rfl q) ?_
          refine Wk.st (g' := (mkF m 93 #[.val (.ref g), .val (.int node), .val (.int p0), .val (.int p1), .val (.int p2), .val (.int p3), .val (.ref b2), .val (.int (1 : Int32))] [(.int (0 : Int32)), (.ref b2), (.int (1 : Int32))])) (fun X t q => XS.iconst X.here C.hx rfl (hb C.hby d3_92) q) ?_
          refine Wk.fLdI C F89 (i := 0) (by decide) (by decide) (by decide) (v := (.int (1 : Int32))) (by simp [up]) d3_93 ?_
          show Wk _ p l e _ s m _ below meth c n0 _ h87 1 4 (mkF m 94 #[.val (.ref g), .val (.int node), .val (.int p0), .val (.int p1), .val (.int p2), .val (.int p3), .val (.ref b2), .val (.int (1 : Int32))] [(.int (1 : Int32)), (.int (1 : Int32))])
          refine Wk.st (g' := (mkF m 97 #[.val (.ref g), .val (.int node), .val (.int p0), .val (.int p1), .val (.int p2), .val (.int p3), .val (.ref b2), .val (.int (1 : Int32))] [])) (fun X t q => XS.icmpNo X.here C.hx rfl (hb C.hby d3_94) rfl (XT.ii_ne_f (by decide)) q) ?_
          refine Wk.st (g' := (mkF m 99 #[.val (.ref g), .val (.int node), .val (.int p0), .val (.int p1), .val (.int p2), .val (.int p3), .val (.ref b2), .val (.int (1 : Int32))] [(.int (1 : Int32))])) (fun X t q => XS.iload X.here C.hx rfl (hb C.hby d3_97) rfl q) ?_
          refine Wk.st (g' := (mkF m 100 #[.val (.ref g), .val (.int node), .val (.int p0), .val (.int p1), .val (.int p2), .val (.int p3), .val (.ref b2), .val (.int (1 : Int32))] [(.int (2 : Int32)), (.int (1 : Int32))])) (fun X t q => XS.iconst X.here C.hx rfl (hb C.hby d3_99) q) ?_
          refine Wk.st (g' := (mkF m 113 #[.val (.ref g), .val (.int node), .val (.int p0), .val (.int p1), .val (.int p2), .val (.int p3), .val (.ref b2), .val (.int (1 : Int32))] [])) (fun X t q => XS.icmpYes X.here C.hx rfl (pc0 := 100) (pc' := 113) rfl (hb C.hby d3_100) rfl (XT.ii_lt_t (by decide)) (by decide) (by decide) q) ?_
          refine Wk.st (g' := (mkF m 115 #[.val (.ref g), .val (.int node), .val (.int p0), .val (.int p1), .val (.int p2), .val (.int p3), .val (.ref b2), .val (.int (1 : Int32))] [(.int (1 : Int32))])) (fun X t q => XS.iload X.here C.hx rfl (hb C.hby d3_113) rfl q) ?_
          refine Wk.st (g' := (mkF m 116 #[.val (.ref g), .val (.int node), .val (.int p0), .val (.int p1), .val (.int p2), .val (.int p3), .val (.ref b2), .val (.int (1 : Int32))] [(.int (3 : Int32)), (.int (1 : Int32))])) (fun X t q => XS.iconst X.here C.hx rfl (hb C.hby d3_115) q) ?_
          refine Wk.st (g' := (mkF m 129 #[.val (.ref g), .val (.int node), .val (.int p0), .val (.int p1), .val (.int p2), .val (.int p3), .val (.ref b2), .val (.int (1 : Int32))] [])) (fun X t q => XS.icmpYes X.here C.hx rfl (pc0 := 116) (pc' := 129) rfl (hb C.hby d3_116) rfl (XT.ii_lt_t (by decide)) (by decide) (by decide) q) ?_
          refine Wk.st (g' := (mkF m 131 #[.val (.ref g), .val (.int node), .val (.int p0), .val (.int p1), .val (.int p2), .val (.int p3), .val (.ref b2), .val (.int (1 : Int32))] [(.int (1 : Int32))])) (fun X t q => XS.iload X.here C.hx rfl (hb C.hby d3_129) rfl q) ?_
          refine Wk.st (g' := (mkF m 132 #[.val (.ref g), .val (.int node), .val (.int p0), .val (.int p1), .val (.int p2), .val (.int p3), .val (.ref b2), .val (.int (1 : Int32))] [(.int (4 : Int32)), (.int (1 : Int32))])) (fun X t q => XS.iconst X.here C.hx rfl (hb C.hby d3_131) q) ?_
          refine Wk.st (g' := (mkF m 145 #[.val (.ref g), .val (.int node), .val (.int p0), .val (.int p1), .val (.int p2), .val (.int p3), .val (.ref b2), .val (.int (1 : Int32))] [])) (fun X t q => XS.icmpYes X.here C.hx rfl (pc0 := 132) (pc' := 145) rfl (hb C.hby d3_132) rfl (XT.ii_lt_t (by decide)) (by decide) (by decide) q) ?_
          refine Wk.st (g' := (mkF m 146 #[.val (.ref g), .val (.int node), .val (.int p0), .val (.int p1), .val (.int p2), .val (.int p3), .val (.ref b2), .val (.int (1 : Int32))] [(.int (1 : Int32))])) (fun X t q => XS.iconst X.here C.hx rfl (hb C.hby d3_145) q) ?_
          refine Wk.st (g' := (mkF m 150 #[.val (.ref g), .val (.int node), .val (.int p0), .val (.int p1), .val (.int p2), .val (.int p3), .val (.ref b2), .val (.int (1 : Int32))] [(.int (1 : Int32))])) (fun X t q => XS.goto X.here C.hx rfl (pc0 := 146) (pc' := 150) rfl (hb C.hby d3_146) (by decide) (by decide) q) ?_
          exact Wk.retV C (t := .boolean) rfl rfl (Or.inl ⟨rfl, by simp, _, rfl⟩) d3_150 (by decide) (by decide) ⟨rfl, K94⟩
    · skip
      refine Wk.st (g' := (mkF m 42 #[.val (.ref g), .val (.int node), .val (.int p0), .val (.int p1), .val (.int p2), .val (.int p3), .val (.ref b2), .val (.int (0 : Int32))] [])) (fun X t q => XS.icmpYes X.here C.hx rfl (pc0 := 30) (pc' := 42) rfl (hb C.hby d3_30) rfl (XT.ii_ne_t hb86) (by decide) (by decide) q) ?_
      refine Wk.st (g' := (mkF m 44 #[.val (.ref g), .val (.int node), .val (.int p0), .val (.int p1), .val (.int p2), .val (.int p3), .val (.ref b2), .val (.int (0 : Int32))] [(.int p2)])) (fun X t q => XS.iload X.here C.hx rfl (hb C.hby d3_42) rfl q) ?_
      refine Wk.st (g' := (mkF m 45 #[.val (.ref g), .val (.int node), .val (.int p0), .val (.int p1), .val (.int p2), .val (.int p3), .val (.ref b2), .val (.int (0 : Int32))] [(.int node), (.int p2)])) (fun X t q => XS.iloadN X.here C.hx rfl (hb C.hby d3_44) rfl q) ?_
      by_cases hb122 : p2 = node
      · skip
        refine Wk.st (g' := (mkF m 48 #[.val (.ref g), .val (.int node), .val (.int p0), .val (.int p1), .val (.int p2), .val (.int p3), .val (.ref b2), .val (.int (0 : Int32))] [])) (fun X t q => XS.icmpNo X.here C.hx rfl (hb C.hby d3_45) rfl (XT.ii_ne_f hb122) q) ?_
        refine Wk.st (g' := (mkF m 50 #[.val (.ref g), .val (.int node), .val (.int p0), .val (.int p1), .val (.int p2), .val (.int p3), .val (.ref b2), .val (.int (0 : Int32))] [(.ref b2)])) (fun X t q => XS.aload X.here C.hx rfl (hb C.hby d3_48) rfl rfl q) ?_
        refine Wk.st (g' := (mkF m 52 #[.val (.ref g), .val (.int node), .val (.int p0), .val (.int p1), .val (.int p2), .val (.int p3), .val (.ref b2), .val (.int (0 : Int32))] [(.int (0 : Int32)), (.ref b2)])) (fun X t q => XS.iload X.here C.hx rfl (hb C.hby d3_50) rfl q) ?_
        refine Wk.st (g' := (mkF m 53 #[.val (.ref g), .val (.int node), .val (.int p0), .val (.int p1), .val (.int p2), .val (.int p3), .val (.ref b2), .val (.int (0 : Int32))] [(.int (2 : Int32)), (.int (0 : Int32)), (.ref b2)])) (fun X t q => XS.iconst X.here C.hx rfl (hb C.hby d3_52) q) ?_
        refine Wk.fStI C F6 (i := 0) (by decide) (by decide) (by decide) ge8 d3_53 ?_
        intro h123 W124 F125
        have F126 : Fa Z h123 g .int (cn [p3, p2, p1, p0] J).toNatClampNeg (fun t => (.int (gk [p3, p2, p1, p0] J t))) := F10.other W124 ne7
        have F127 : Exa Z h123 b2 "[I" := A5.wr W124
        have sz128 : n0 ≤ h123.size := Nat.le_trans sz11 (Nat.le_of_eq W124.size.symm)
        have sy129 : h0.size ≤ h123.size := Nat.le_trans sy12 (Nat.le_of_eq W124.size.symm)
        have K130 := K13.wr W124 (Or.inr gz9)
        show Wk _ p l e _ s m _ below meth c n0 _ h123 1 4 (mkF m 54 #[.val (.ref g), .val (.int node), .val (.int p0), .val (.int p1), .val (.int p2), .val (.int p3), .val (.ref b2), .val (.int (0 : Int32))] [])
        refine Wk.st (g' := (mkF m 57 #[.val (.ref g), .val (.int node), .val (.int p0), .val (.int p1), .val (.int p2), .val (.int p3), .val (.ref b2), .val (.int (1 : Int32))] [])) (fun X t q => XS.iinc X.here C.hx rfl (hb C.hby d3_54) rfl (l' := #[.val (.ref g), .val (.int node), .val (.int p0), .val (.int p1), .val (.int p2), .val (.int p3), .val (.ref b2), .val (.int (1 : Int32))]) rfl q) ?_
        refine Wk.st (g' := (mkF m 59 #[.val (.ref g), .val (.int node), .val (.int p0), .val (.int p1), .val (.int p2), .val (.int p3), .val (.ref b2), .val (.int (1 : Int32))] [(.int p3)])) (fun X t q => XS.iload X.here C.hx rfl (hb C.hby d3_57) rfl q) ?_
        refine Wk.st (g' := (mkF m 60 #[.val (.ref g), .val (.int node), .val (.int p0), .val (.int p1), .val (.int p2), .val (.int p3), .val (.ref b2), .val (.int (1 : Int32))] [(.int node), (.int p3)])) (fun X t q => XS.iloadN X.here C.hx rfl (hb C.hby d3_59) rfl q) ?_
        by_cases hb131 : p3 = node
        · skip
          refine Wk.st (g' := (mkF m 63 #[.val (.ref g), .val (.int node), .val (.int p0), .val (.int p1), .val (.int p2), .val (.int p3), .val (.ref b2), .val (.int (1 : Int32))] [])) (fun X t q => XS.icmpNo X.here C.hx rfl (hb C.hby d3_60) rfl (XT.ii_ne_f hb131) q) ?_
          refine Wk.st (g' := (mkF m 65 #[.val (.ref g), .val (.int node), .val (.int p0), .val (.int p1), .val (.int p2), .val (.int p3), .val (.ref b2), .val (.int (1 : Int32))] [(.ref b2)])) (fun X t q => XS.aload X.here C.hx rfl (hb C.hby d3_63) rfl rfl q) ?_
          refine Wk.st (g' := (mkF m 67 #[.val (.ref g), .val (.int node), .val (.int p0), .val (.int p1), .val (.int p2), .val (.int p3), .val (.ref b2), .val (.int (1 : Int32))] [(.int (1 : Int32)), (.ref b2)])) (fun X t q => XS.iload X.here C.hx rfl (hb C.hby d3_65) rfl q) ?_
          refine Wk.st (g' := (mkF m 68 #[.val (.ref g), .val (.int node), .val (.int p0), .val (.int p1), .val (.int p2), .val (.int p3), .val (.ref b2), .val (.int (1 : Int32))] [(.int (3 : Int32)), (.int (1 : Int32)), (.ref b2)])) (fun X t q => XS.iconst X.here C.hx rfl (hb C.hby d3_67) q) ?_
          refine Wk.fStI C F125 (i := 1) (by decide) (by decide) (by decide) ge8 d3_68 ?_
          intro h132 W133 F134
          have F135 : Fa Z h132 g .int (cn [p3, p2, p1, p0] J).toNatClampNeg (fun t => (.int (gk [p3, p2, p1, p0] J t))) := F126.other W133 ne7
          have F136 : Exa Z h132 b2 "[I" := F127.wr W133
          have sz137 : n0 ≤ h132.size := Nat.le_trans sz128 (Nat.le_of_eq W133.size.symm)
          have sy138 : h0.size ≤ h132.size := Nat.le_trans sy129 (Nat.le_of_eq W133.size.symm)
          have K139 := K130.wr W133 (Or.inr gz9)
          show Wk _ p l e _ s m _ below meth c n0 _ h132 1 4 (mkF m 69 #[.val (.ref g), .val (.int node), .val (.int p0), .val (.int p1), .val (.int p2), .val (.int p3), .val (.ref b2), .val (.int (1 : Int32))] [])
          refine Wk.st (g' := (mkF m 72 #[.val (.ref g), .val (.int node), .val (.int p0), .val (.int p1), .val (.int p2), .val (.int p3), .val (.ref b2), .val (.int (2 : Int32))] [])) (fun X t q => XS.iinc X.here C.hx rfl (hb C.hby d3_69) rfl (l' := #[.val (.ref g), .val (.int node), .val (.int p0), .val (.int p1), .val (.int p2), .val (.int p3), .val (.ref b2), .val (.int (2 : Int32))]) rfl q) ?_
          refine Wk.st (g' := (mkF m 73 #[.val (.ref g), .val (.int node), .val (.int p0), .val (.int p1), .val (.int p2), .val (.int p3), .val (.ref b2), .val (.int (2 : Int32))] [(.ref g)])) (fun X t q => XS.aloadN X.here C.hx rfl (hb C.hby d3_72) rfl rfl q) ?_
          refine Wk.fLen C F135 (z := (2 : Int32)) (by simp [cn, (to_no hJ hb14), (to_no hJ hb86), (to_yes hJ hb122), (to_yes hJ hb131)] <;> decide) d3_73 ?_
          show Wk _ p l e _ s m _ below meth c n0 _ h132 1 4 (mkF m 74 #[.val (.ref g), .val (.int node), .val (.int p0), .val (.int p1), .val (.int p2), .val (.int p3), .val (.ref b2), .val (.int (2 : Int32))] [(.int (2 : Int32))])
          refine Wk.st (g' := (mkF m 76 #[.val (.ref g), .val (.int node), .val (.int p0), .val (.int p1), .val (.int p2), .val (.int p3), .val (.ref b2), .val (.int (2 : Int32))] [(.int (2 : Int32)), (.int (2 : Int32))])) (fun X t q => XS.iload X.here C.hx rfl (hb C.hby d3_74) rfl q) ?_
          refine Wk.st (g' := (mkF m 81 #[.val (.ref g), .val (.int node), .val (.int p0), .val (.int p1), .val (.int p2), .val (.int p3), .val (.ref b2), .val (.int (2 : Int32))] [])) (fun X t q => XS.icmpYes X.here C.hx rfl (pc0 := 76) (pc' := 81) rfl (hb C.hby d3_76) rfl (XT.ii_eq_t (by decide)) (by decide) (by decide) q) ?_
          refine Wk.st (g' := (mkF m 83 #[.val (.ref g), .val (.int node), .val (.int p0), .val (.int p1), .val (.int p2), .val (.int p3), .val (.ref b2), .val (.int (2 : Int32))] [(.int (2 : Int32))])) (fun X t q => XS.iload X.here C.hx rfl (hb C.hby d3_81) rfl q) ?_
          refine Wk.st (g' := (mkF m 84 #[.val (.ref g), .val (.int node), .val (.int p0), .val (.int p1), .val (.int p2), .val (.int p3), .val (.ref b2), .val (.int (2 : Int32))] [(.int (1 : Int32)), (.int (2 : Int32))])) (fun X t q => XS.iconst X.here C.hx rfl (hb C.hby d3_83) q) ?_
          refine Wk.st (g' := (mkF m 87 #[.val (.ref g), .val (.int node), .val (.int p0), .val (.int p1), .val (.int p2), .val (.int p3), .val (.ref b2), .val (.int (2 : Int32))] [])) (fun X t q => XS.icmpNo X.here C.hx rfl (hb C.hby d3_84) rfl (XT.ii_lt_f (by decide)) q) ?_
          refine Wk.st (g' := (mkF m 88 #[.val (.ref g), .val (.int node), .val (.int p0), .val (.int p1), .val (.int p2), .val (.int p3), .val (.ref b2), .val (.int (2 : Int32))] [(.ref g)])) (fun X t q => XS.aloadN X.here C.hx rfl (hb C.hby d3_87) rfl rfl q) ?_
          refine Wk.st (g' := (mkF m 89 #[.val (.ref g), .val (.int node), .val (.int p0), .val (.int p1), .val (.int p2), .val (.int p3), .val (.ref b2), .val (.int (2 : Int32))] [(.int (0 : Int32)), (.ref g)])) (fun X t q => XS.iconst X.here C.hx rfl (hb C.hby d3_88) q) ?_
          refine Wk.fLdI C F135 (i := 0) (by decide) (by decide) (by simp [cn, (to_no hJ hb14), (to_no hJ hb86), (to_yes hJ hb122), (to_yes hJ hb131)] <;> decide) (v := (.int (2 : Int32))) (by simp [gk, cn, (to_no hJ hb14), (to_no hJ hb86), (to_yes hJ hb122), (to_yes hJ hb131)] <;> decide) d3_89 ?_
          show Wk _ p l e _ s m _ below meth c n0 _ h132 1 4 (mkF m 90 #[.val (.ref g), .val (.int node), .val (.int p0), .val (.int p1), .val (.int p2), .val (.int p3), .val (.ref b2), .val (.int (2 : Int32))] [(.int (2 : Int32))])
          refine Wk.st (g' := (mkF m 92 #[.val (.ref g), .val (.int node), .val (.int p0), .val (.int p1), .val (.int p2), .val (.int p3), .val (.ref b2), .val (.int (2 : Int32))] [(.ref b2), (.int (2 : Int32))])) (fun X t q => XS.aload X.here C.hx rfl (hb C.hby d3_90) rfl rfl q) ?_
          refine Wk.st (g' := (mkF m 93 #[.val (.ref g), .val (.int node), .val (.int p0), .val (.int p1), .val (.int p2), .val (.int p3), .val (.ref b2), .val (.int (2 : Int32))] [(.int (0 : Int32)), (.ref b2), (.int (2 : Int32))])) (fun X t q => XS.iconst X.here C.hx rfl (hb C.hby d3_92) q) ?_
          refine Wk.fLdI C F134 (i := 0) (by decide) (by decide) (by decide) (v := (.int (2 : Int32))) (by simp [up]) d3_93 ?_
          show Wk _ p l e _ s m _ below meth c n0 _ h132 1 4 (mkF m 94 #[.val (.ref g), .val (.int node), .val (.int p0), .val (.int p1), .val (.int p2), .val (.int p3), .val (.ref b2), .val (.int (2 : Int32))] [(.int (2 : Int32)), (.int (2 : Int32))])
          refine Wk.st (g' := (mkF m 97 #[.val (.ref g), .val (.int node), .val (.int p0), .val (.int p1), .val (.int p2), .val (.int p3), .val (.ref b2), .val (.int (2 : Int32))] [])) (fun X t q => XS.icmpNo X.here C.hx rfl (hb C.hby d3_94) rfl (XT.ii_ne_f (by decide)) q) ?_
          refine Wk.st (g' := (mkF m 99 #[.val (.ref g), .val (.int node), .val (.int p0), .val (.int p1), .val (.int p2), .val (.int p3), .val (.ref b2), .val (.int (2 : Int32))] [(.int (2 : Int32))])) (fun X t q => XS.iload X.here C.hx rfl (hb C.hby d3_97) rfl q) ?_
          refine Wk.st (g' := (mkF m 100 #[.val (.ref g), .val (.int node), .val (.int p0), .val (.int p1), .val (.int p2), .val (.int p3), .val (.ref b2), .val (.int (2 : Int32))] [(.int (2 : Int32)), (.int (2 : Int32))])) (fun X t q => XS.iconst X.here C.hx rfl (hb C.hby d3_99) q) ?_
          refine Wk.st (g' := (mkF m 103 #[.val (.ref g), .val (.int node), .val (.int p0), .val (.int p1), .val (.int p2), .val (.int p3), .val (.ref b2), .val (.int (2 : Int32))] [])) (fun X t q => XS.icmpNo X.here C.hx rfl (hb C.hby d3_100) rfl (XT.ii_lt_f (by decide)) q) ?_
          refine Wk.st (g' := (mkF m 104 #[.val (.ref g), .val (.int node), .val (.int p0), .val (.int p1), .val (.int p2), .val (.int p3), .val (.ref b2), .val (.int (2 : Int32))] [(.ref g)])) (fun X t q => XS.aloadN X.here C.hx rfl (hb C.hby d3_103) rfl rfl q) ?_
          refine Wk.st (g' := (mkF m 105 #[.val (.ref g), .val (.int node), .val (.int p0), .val (.int p1), .val (.int p2), .val (.int p3), .val (.ref b2), .val (.int (2 : Int32))] [(.int (1 : Int32)), (.ref g)])) (fun X t q => XS.iconst X.here C.hx rfl (hb C.hby d3_104) q) ?_
          refine Wk.fLdI C F135 (i := 1) (by decide) (by decide) (by simp [cn, (to_no hJ hb14), (to_no hJ hb86), (to_yes hJ hb122), (to_yes hJ hb131)] <;> decide) (v := (.int (3 : Int32))) (by simp [gk, cn, (to_no hJ hb14), (to_no hJ hb86), (to_yes hJ hb122), (to_yes hJ hb131)] <;> decide) d3_105 ?_
          show Wk _ p l e _ s m _ below meth c n0 _ h132 1 4 (mkF m 106 #[.val (.ref g), .val (.int node), .val (.int p0), .val (.int p1), .val (.int p2), .val (.int p3), .val (.ref b2), .val (.int (2 : Int32))] [(.int (3 : Int32))])
          refine Wk.st (g' := (mkF m 108 #[.val (.ref g), .val (.int node), .val (.int p0), .val (.int p1), .val (.int p2), .val (.int p3), .val (.ref b2), .val (.int (2 : Int32))] [(.ref b2), (.int (3 : Int32))])) (fun X t q => XS.aload X.here C.hx rfl (hb C.hby d3_106) rfl rfl q) ?_
          refine Wk.st (g' := (mkF m 109 #[.val (.ref g), .val (.int node), .val (.int p0), .val (.int p1), .val (.int p2), .val (.int p3), .val (.ref b2), .val (.int (2 : Int32))] [(.int (1 : Int32)), (.ref b2), (.int (3 : Int32))])) (fun X t q => XS.iconst X.here C.hx rfl (hb C.hby d3_108) q) ?_
          refine Wk.fLdI C F134 (i := 1) (by decide) (by decide) (by decide) (v := (.int (3 : Int32))) (by simp [up]) d3_109 ?_
          show Wk _ p l e _ s m _ below meth c n0 _ h132 1 4 (mkF m 110 #[.val (.ref g), .val (.int node), .val (.int p0), .val (.int p1), .val (.int p2), .val (.int p3), .val (.ref b2), .val (.int (2 : Int32))] [(.int (3 : Int32)), (.int (3 : Int32))])
          refine Wk.st (g' := (mkF m 113 #[.val (.ref g), .val (.int node), .val (.int p0), .val (.int p1), .val (.int p2), .val (.int p3), .val (.ref b2), .val (.int (2 : Int32))] [])) (fun X t q => XS.icmpNo X.here C.hx rfl (hb C.hby d3_110) rfl (XT.ii_ne_f (by decide)) q) ?_
          refine Wk.st (g' := (mkF m 115 #[.val (.ref g), .val (.int node), .val (.int p0), .val (.int p1), .val (.int p2), .val (.int p3), .val (.ref b2), .val (.int (2 : Int32))] [(.int (2 : Int32))])) (fun X t q => XS.iload X.here C.hx rfl (hb C.hby d3_113) rfl q) ?_
          refine Wk.st (g' := (mkF m 116 #[.val (.ref g), .val (.int node), .val (.int p0), .val (.int p1), .val (.int p2), .val (.int p3), .val (.ref b2), .val (.int (2 : Int32))] [(.int (3 : Int32)), (.int (2 : Int32))])) (fun X t q => XS.iconst X.here C.hx rfl (hb C.hby d3_115) q) ?_
          refine Wk.st (g' := (mkF m 129 #[.val (.ref g), .val (.int node), .val (.int p0), .val (.int p1), .val (.int p2), .val (.int p3), .val (.ref b2), .val (.int (2 : Int32))] [])) (fun X t q => XS.icmpYes X.here C.hx rfl (pc0 := 116) (pc' := 129) rfl (hb C.hby d3_116) rfl (XT.ii_lt_t (by decide)) (by decide) (by decide) q) ?_
          refine Wk.st (g' := (mkF m 131 #[.val (.ref g), .val (.int node), .val (.int p0), .val (.int p1), .val (.int p2), .val (.int p3), .val (.ref b2), .val (.int (2 : Int32))] [(.int (2 : Int32))])) (fun X t q => XS.iload X.here C.hx rfl (hb C.hby d3_129) rfl q) ?_
          refine Wk.st (g' := (mkF m 132 #[.val (.ref g), .val (.int node), .val (.int p0), .val (.int p1), .val (.int p2), .val (.int p3), .val (.ref b2), .val (.int (2 : Int32))] [(.int (4 : Int32)), (.int (2 : Int32))])) (fun X t q => XS.iconst X.here C.hx rfl (hb C.hby d3_131) q) ?_
          refine Wk.st (g' := (mkF m 145 #[.val (.ref g), .val (.int node), .val (.int p0), .val (.int p1), .val (.int p2), .val (.int p3), .val (.ref b2), .val (.int (2 : Int32))] [])) (fun X t q => XS.icmpYes X.here C.hx rfl (pc0 := 132) (pc' := 145) rfl (hb C.hby d3_132) rfl (XT.ii_lt_t (by decide)) (by decide) (by decide) q) ?_
          refine Wk.st (g' := (mkF m 146 #[.val (.ref g), .val (.int node), .val (.int p0), .val (.int p1), .val (.int p2), .val (.int p3), .val (.ref b2), .val (.int (2 : Int32))] [(.int (1 : Int32))])) (fun X t q => XS.iconst X.here C.hx rfl (hb C.hby d3_145) q) ?_
          refine Wk.st (g' := (mkF m 150 #[.val (.ref g), .val (.int node), .val (.int p0), .val (.int p1), .val (.int p2), .val (.int p3), .val (.ref b2), .val (.int (2 : Int32))] [(.int (1 : Int32))])) (fun X t q => XS.goto X.here C.hx rfl (pc0 := 146) (pc' := 150) rfl (hb C.hby d3_146) (by decide) (by decide) q) ?_
          exact Wk.retV C (t := .boolean) rfl rfl (Or.inl ⟨rfl, by simp, _, rfl⟩) d3_150 (by decide) (by decide) ⟨rfl, K139⟩
        · skip
          refine Wk.st (g' := (mkF m 72 #[.val (.ref g), .val (.int node), .val (.int p0), .val (.int p1), .val (.int p2), .val (.int p3), .val (.ref b2), .val (.int (1 : Int32))] [])) (fun X t q => XS.icmpYes X.here C.hx rfl (pc0 := 60) (pc' := 72) rfl (hb C.hby d3_60) rfl (XT.ii_ne_t hb131) (by decide) (by decide) q) ?_
          refine Wk.st (g' := (mkF m 73 #[.val (.ref g), .val (.int node), .val (.int p0), .val (.int p1), .val (.int p2), .val (.int p3), .val (.ref b2), .val (.int (1 : Int32))] [(.ref g)])) (fun X t q => XS.aloadN X.here C.hx rfl (hb C.hby d3_72) rfl rfl q) ?_
          refine Wk.fLen C F126 (z := (1 : Int32)) (by simp [cn, (to_no hJ hb14), (to_no hJ hb86), (to_yes hJ hb122), (to_no hJ hb131)] <;> decide) d3_73 ?_
          show Wk _ p l e _ s m _ below meth c n0 _ h123 1 4 (mkF m 74 #[.val (.ref g), .val (.int node), .val (.int p0), .val (.int p1), .val (.int p2), .val (.int p3), .val (.ref b2), .val (.int (1 : Int32))] [(.int (1 : Int32))])
          refine Wk.st (g' := (mkF m 76 #[.val (.ref g), .val (.int node), .val (.int p0), .val (.int p1), .val (.int p2), .val (.int p3), .val (.ref b2), .val (.int (1 : Int32))] [(.int (1 : Int32)), (.int (1 : Int32))])) (fun X t q => XS.iload X.here C.hx rfl (hb C.hby d3_74) rfl q) ?_
          refine Wk.st (g' := (mkF m 81 #[.val (.ref g), .val (.int node), .val (.int p0), .val (.int p1), .val (.int p2), .val (.int p3), .val (.ref b2), .val (.int (1 : Int32))] [])) (fun X t q => XS.icmpYes X.here C.hx rfl (pc0 := 76) (pc' := 81) rfl (hb C.hby d3_76) rfl (XT.ii_eq_t (by decide)) (by decide) (by decide) q) ?_
          refine Wk.st (g' := (mkF m 83 #[.val (.ref g), .val (.int node), .val (.int p0), .val (.int p1), .val (.int p2), .val (.int p3), .val (.ref b2), .val (.int (1 : Int32))] [(.int (1 : Int32))])) (fun X t q => XS.iload X.here C.hx rfl (hb C.hby d3_81) rfl q) ?_
          refine Wk.st (g' := (mkF m 84 #[.val (.ref g), .val (.int node), .val (.int p0), .val (.int p1), .val (.int p2), .val (.int p3), .val (.ref b2), .val (.int (1 : Int32))] [(.int (1 : Int32)), (.int (1 : Int32))])) (fun X t q => XS.iconst X.here C.hx rfl (hb C.hby d3_83) q) ?_
          refine Wk.st (g' := (mkF m 87 #[.val (.ref g), .val (.int node), .val (.int p0), .val (.int p1), .val (.int p2), .val (.int p3), .val (.ref b2), .val (.int (1 : Int32))] [])) (fun X t q => XS.icmpNo X.here C.hx rfl (hb C.hby d3_84) rfl (XT.ii_lt_f (by decide)) q) ?_
          refine Wk.st (g' := (mkF m 88 #[.val (.ref g), .val (.int node), .val (.int p0), .val (.int p1), .val (.int p2), .val (.int p3), .val (.ref b2), .val (.int (1 : Int32))] [(.ref g)])) (fun X t q => XS.aloadN X.here C.hx rfl (hb C.hby d3_87) rfl rfl q) ?_
          refine Wk.st (g' := (mkF m 89 #[.val (.ref g), .val (.int node), .val (.int p0), .val (.int p1), .val (.int p2), .val (.int p3), .val (.ref b2), .val (.int (1 : Int32))] [(.int (0 : Int32)), (.ref g)])) (fun X t q => XS.iconst X.here C.hx rfl (hb C.hby d3_88) q) ?_
          refine Wk.fLdI C F126 (i := 0) (by decide) (by decide) (by simp [cn, (to_no hJ hb14), (to_no hJ hb86), (to_yes hJ hb122), (to_no hJ hb131)] <;> decide) (v := (.int (2 : Int32))) (by simp [gk, cn, (to_no hJ hb14), (to_no hJ hb86), (to_yes hJ hb122), (to_no hJ hb131)] <;> decide) d3_89 ?_
          show Wk _ p l e _ s m _ below meth c n0 _ h123 1 4 (mkF m 90 #[.val (.ref g), .val (.int node), .val (.int p0), .val (.int p1), .val (.int p2), .val (.int p3), .val (.ref b2), .val (.int (1 : Int32))] [(.int (2 : Int32))])
          refine Wk.st (g' := (mkF m 92 #[.val (.ref g), .val (.int node), .val (.int p0), .val (.int p1), .val (.int p2), .val (.int p3), .val (.ref b2), .val (.int (1 : Int32))] [(.ref b2), (.int (2 : Int32))])) (fun X t q => XS.aload X.here C.hx rfl (hb C.hby d3_90) rfl rfl q) ?_
          refine Wk.st (g' := (mkF m 93 #[.val (.ref g), .val (.int node), .val (.int p0), .val (.int p1), .val (.int p2), .val (.int p3), .val (.ref b2), .val (.int (1 : Int32))] [(.int (0 : Int32)), (.ref b2), (.int (2 : Int32))])) (fun X t q => XS.iconst X.here C.hx rfl (hb C.hby d3_92) q) ?_
          refine Wk.fLdI C F125 (i := 0) (by decide) (by decide) (by decide) (v := (.int (2 : Int32))) (by simp [up]) d3_93 ?_
          show Wk _ p l e _ s m _ below meth c n0 _ h123 1 4 (mkF m 94 #[.val (.ref g), .val (.int node), .val (.int p0), .val (.int p1), .val (.int p2), .val (.int p3), .val (.ref b2), .val (.int (1 : Int32))] [(.int (2 : Int32)), (.int (2 : Int32))])
          refine Wk.st (g' := (mkF m 97 #[.val (.ref g), .val (.int node), .val (.int p0), .val (.int p1), .val (.int p2), .val (.int p3), .val (.ref b2), .val (.int (1 : Int32))] [])) (fun X t q => XS.icmpNo X.here C.hx rfl (hb C.hby d3_94) rfl (XT.ii_ne_f (by decide)) q) ?_
          refine Wk.st (g' := (mkF m 99 #[.val (.ref g), .val (.int node), .val (.int p0), .val (.int p1), .val (.int p2), .val (.int p3), .val (.ref b2), .val (.int (1 : Int32))] [(.int (1 : Int32))])) (fun X t q => XS.iload X.here C.hx rfl (hb C.hby d3_97) rfl q) ?_
          refine Wk.st (g' := (mkF m 100 #[.val (.ref g), .val (.int node), .val (.int p0), .val (.int p1), .val (.int p2), .val (.int p3), .val (.ref b2), .val (.int (1 : Int32))] [(.int (2 : Int32)), (.int (1 : Int32))])) (fun X t q => XS.iconst X.here C.hx rfl (hb C.hby d3_99) q) ?_
          refine Wk.st (g' := (mkF m 113 #[.val (.ref g), .val (.int node), .val (.int p0), .val (.int p1), .val (.int p2), .val (.int p3), .val (.ref b2), .val (.int (1 : Int32))] [])) (fun X t q => XS.icmpYes X.here C.hx rfl (pc0 := 100) (pc' := 113) rfl (hb C.hby d3_100) rfl (XT.ii_lt_t (by decide)) (by decide) (by decide) q) ?_
          refine Wk.st (g' := (mkF m 115 #[.val (.ref g), .val (.int node), .val (.int p0), .val (.int p1), .val (.int p2), .val (.int p3), .val (.ref b2), .val (.int (1 : Int32))] [(.int (1 : Int32))])) (fun X t q => XS.iload X.here C.hx rfl (hb C.hby d3_113) rfl q) ?_
          refine Wk.st (g' := (mkF m 116 #[.val (.ref g), .val (.int node), .val (.int p0), .val (.int p1), .val (.int p2), .val (.int p3), .val (.ref b2), .val (.int (1 : Int32))] [(.int (3 : Int32)), (.int (1 : Int32))])) (fun X t q => XS.iconst X.here C.hx rfl (hb C.hby d3_115) q) ?_
          refine Wk.st (g' := (mkF m 129 #[.val (.ref g), .val (.int node), .val (.int p0), .val (.int p1), .val (.int p2), .val (.int p3), .val (.ref b2), .val (.int (1 : Int32))] [])) (fun X t q => XS.icmpYes X.here C.hx rfl (pc0 := 116) (pc' := 129) rfl (hb C.hby d3_116) rfl (XT.ii_lt_t (by decide)) (by decide) (by decide) q) ?_
          refine Wk.st (g' := (mkF m 131 #[.val (.ref g), .val (.int node), .val (.int p0), .val (.int p1), .val (.int p2), .val (.int p3), .val (.ref b2), .val (.int (1 : Int32))] [(.int (1 : Int32))])) (fun X t q => XS.iload X.here C.hx rfl (hb C.hby d3_129) rfl q) ?_
          refine Wk.st (g' := (mkF m 132 #[.val (.ref g), .val (.int node), .val (.int p0), .val (.int p1), .val (.int p2), .val (.int p3), .val (.ref b2), .val (.int (1 : Int32))] [(.int (4 : Int32)), (.int (1 : Int32))])) (fun X t q => XS.iconst X.here C.hx rfl (hb C.hby d3_131) q) ?_
          refine Wk.st (g' := (mkF m 145 #[.val (.ref g), .val (.int node), .val (.int p0), .val (.int p1), .val (.int p2), .val (.int p3), .val (.ref b2), .val (.int (1 : Int32))] [])) (fun X t q => XS.icmpYes X.here C.hx rfl (pc0 := 132) (pc' := 145) rfl (hb C.hby d3_132) rfl (XT.ii_lt_t (by decide)) (by decide) (by decide) q) ?_
          refine Wk.st (g' := (mkF m 146 #[.val (.ref g), .val (.int node), .val (.int p0), .val (.int p1), .val (.int p2), .val (.int p3), .val (.ref b2), .val (.int (1 : Int32))] [(.int (1 : Int32))])) (fun X t q => XS.iconst X.here C.hx rfl (hb C.hby d3_145) q) ?_
          refine Wk.st (g' := (mkF m 150 #[.val (.ref g), .val (.int node), .val (.int p0), .val (.int p1), .val (.int p2), .val (.int p3), .val (.ref b2), .val (.int (1 : Int32))] [(.int (1 : Int32))])) (fun X t q => XS.goto X.here C.hx rfl (pc0 := 146) (pc' := 150) rfl (hb C.hby d3_146) (by decide) (by decide) q) ?_
          exact Wk.retV C (t := .boolean) rfl rfl (Or.inl ⟨rfl, by simp, _, rfl⟩) d3_150 (by decide) (by decide) ⟨rfl, K130⟩
      · skip
        refine Wk.st (g' := (mkF m 57 #[.val (.ref g), .val (.int node), .val (.int p0), .val (.int p1), .val (.int p2), .val (.int p3), .val (.ref b2), .val (.int (0 : Int32))] [])) (fun X t q => XS.icmpYes X.here C.hx rfl (pc0 := 45) (pc' := 57) rfl (hb C.hby d3_45) rfl (XT.ii_ne_t hb122) (by decide) (by decide) q) ?_
        refine Wk.st (g' := (mkF m 59 #[.val (.ref g), .val (.int node), .val (.int p0), .val (.int p1), .val (.int p2), .val (.int p3), .val (.ref b2), .val (.int (0 : Int32))] [(.int p3)])) (fun X t q => XS.iload X.here C.hx rfl (hb C.hby d3_57) rfl q) ?_
        refine Wk.st (g' := (mkF m 60 #[.val (.ref g), .val (.int node), .val (.int p0), .val (.int p1), .val (.int p2), .val (.int p3), .val (.ref b2), .val (.int (0 : Int32))] [(.int node), (.int p3)])) (fun X t q => XS.iloadN X.here C.hx rfl (hb C.hby d3_59) rfl q) ?_
        by_cases hb140 : p3 = node
        · skip
          refine Wk.st (g' := (mkF m 63 #[.val (.ref g), .val (.int node), .val (.int p0), .val (.int p1), .val (.int p2), .val (.int p3), .val (.ref b2), .val (.int (0 : Int32))] [])) (fun X t q => XS.icmpNo X.here C.hx rfl (hb C.hby d3_60) rfl (XT.ii_ne_f hb140) q) ?_
          refine Wk.st (g' := (mkF m 65 #[.val (.ref g), .val (.int node), .val (.int p0), .val (.int p1), .val (.int p2), .val (.int p3), .val (.ref b2), .val (.int (0 : Int32))] [(.ref b2)])) (fun X t q => XS.aload X.here C.hx rfl (hb C.hby d3_63) rfl rfl q) ?_
          refine Wk.st (g' := (mkF m 67 #[.val (.ref g), .val (.int node), .val (.int p0), .val (.int p1), .val (.int p2), .val (.int p3), .val (.ref b2), .val (.int (0 : Int32))] [(.int (0 : Int32)), (.ref b2)])) (fun X t q => XS.iload X.here C.hx rfl (hb C.hby d3_65) rfl q) ?_
          refine Wk.st (g' := (mkF m 68 #[.val (.ref g), .val (.int node), .val (.int p0), .val (.int p1), .val (.int p2), .val (.int p3), .val (.ref b2), .val (.int (0 : Int32))] [(.int (3 : Int32)), (.int (0 : Int32)), (.ref b2)])) (fun X t q => XS.iconst X.here C.hx rfl (hb C.hby d3_67) q) ?_
          refine Wk.fStI C F6 (i := 0) (by decide) (by decide) (by decide) ge8 d3_68 ?_
          intro h141 W142 F143
          have F144 : Fa Z h141 g .int (cn [p3, p2, p1, p0] J).toNatClampNeg (fun t => (.int (gk [p3, p2, p1, p0] J t))) := F10.other W142 ne7
          have F145 : Exa Z h141 b2 "[I" := A5.wr W142
          have sz146 : n0 ≤ h141.size := Nat.le_trans sz11 (Nat.le_of_eq W142.size.symm)
          have sy147 : h0.size ≤ h141.size := Nat.le_trans sy12 (Nat.le_of_eq W142.size.symm)
          have K148 := K13.wr W142 (Or.inr gz9)
          show Wk _ p l e _ s m _ below meth c n0 _ h141 1 4 (mkF m 69 #[.val (.ref g), .val (.int node), .val (.int p0), .val (.int p1), .val (.int p2), .val (.int p3), .val (.ref b2), .val (.int (0 : Int32))] [])
          refine Wk.st (g' := (mkF m 72 #[.val (.ref g), .val (.int node), .val (.int p0), .val (.int p1), .val (.int p2), .val (.int p3), .val (.ref b2), .val (.int (1 : Int32))] [])) (fun X t q => XS.iinc X.here C.hx rfl (hb C.hby d3_69) rfl (l' := #[.val (.ref g), .val (.int node), .val (.int p0), .val (.int p1), .val (.int p2), .val (.int p3), .val (.ref b2), .val (.int (1 : Int32))]) rfl q) ?_
          refine Wk.st (g' := (mkF m 73 #[.val (.ref g), .val (.int node), .val (.int p0), .val (.int p1), .val (.int p2), .val (.int p3), .val (.ref b2), .val (.int (1 : Int32))] [(.ref g)])) (fun X t q => XS.aloadN X.here C.hx rfl (hb C.hby d3_72) rfl rfl q) ?_
          refine Wk.fLen C F144 (z := (1 : Int32)) (by simp [cn, (to_no hJ hb14), (to_no hJ hb86), (to_no hJ hb122), (to_yes hJ hb140)] <;> decide) d3_73 ?_
          show Wk _ p l e _ s m _ below meth c n0 _ h141 1 4 (mkF m 74 #[.val (.ref g), .val (.int node), .val (.int p0), .val (.int p1), .val (.int p2), .val (.int p3), .val (.ref b2), .val (.int (1 : Int32))] [(.int (1 : Int32))])
          refine Wk.st (g' := (mkF m 76 #[.val (.ref g), .val (.int node), .val (.int p0), .val (.int p1), .val (.int p2), .val (.int p3), .val (.ref b2), .val (.int (1 : Int32))] [(.int (1 : Int32)), (.int (1 : Int32))])) (fun X t q => XS.iload X.here C.hx rfl (hb C.hby d3_74) rfl q) ?_
          refine Wk.st (g' := (mkF m 81 #[.val (.ref g), .val (.int node), .val (.int p0), .val (.int p1), .val (.int p2), .val (.int p3), .val (.ref b2), .val (.int (1 : Int32))] [])) (fun X t q => XS.icmpYes X.here C.hx rfl (pc0 := 76) (pc' := 81) rfl (hb C.hby d3_76) rfl (XT.ii_eq_t (by decide)) (by decide) (by decide) q) ?_
          refine Wk.st (g' := (mkF m 83 #[.val (.ref g), .val (.int node), .val (.int p0), .val (.int p1), .val (.int p2), .val (.int p3), .val (.ref b2), .val (.int (1 : Int32))] [(.int (1 : Int32))])) (fun X t q => XS.iload X.here C.hx rfl (hb C.hby d3_81) rfl q) ?_
          refine Wk.st (g' := (mkF m 84 #[.val (.ref g), .val (.int node), .val (.int p0), .val (.int p1), .val (.int p2), .val (.int p3), .val (.ref b2), .val (.int (1 : Int32))] [(.int (1 : Int32)), (.int (1 : Int32))])) (fun X t q => XS.iconst X.here C.hx rfl (hb C.hby d3_83) q) ?_
          refine Wk.st (g' := (mkF m 87 #[.val (.ref g), .val (.int node), .val (.int p0), .val (.int p1), .val (.int p2), .val (.int p3), .val (.ref b2), .val (.int (1 : Int32))] [])) (fun X t q => XS.icmpNo X.here C.hx rfl (hb C.hby d3_84) rfl (XT.ii_lt_f (by decide)) q) ?_
          refine Wk.st (g' := (mkF m 88 #[.val (.ref g), .val (.int node), .val (.int p0), .val (.int p1), .val (.int p2), .val (.int p3), .val (.ref b2), .val (.int (1 : Int32))] [(.ref g)])) (fun X t q => XS.aloadN X.here C.hx rfl (hb C.hby d3_87) rfl rfl q) ?_
          refine Wk.st (g' := (mkF m 89 #[.val (.ref g), .val (.int node), .val (.int p0), .val (.int p1), .val (.int p2), .val (.int p3), .val (.ref b2), .val (.int (1 : Int32))] [(.int (0 : Int32)), (.ref g)])) (fun X t q => XS.iconst X.here C.hx rfl (hb C.hby d3_88) q) ?_
          refine Wk.fLdI C F144 (i := 0) (by decide) (by decide) (by simp [cn, (to_no hJ hb14), (to_no hJ hb86), (to_no hJ hb122), (to_yes hJ hb140)] <;> decide) (v := (.int (3 : Int32))) (by simp [gk, cn, (to_no hJ hb14), (to_no hJ hb86), (to_no hJ hb122), (to_yes hJ hb140)] <;> decide) d3_89 ?_
          show Wk _ p l e _ s m _ below meth c n0 _ h141 1 4 (mkF m 90 #[.val (.ref g), .val (.int node), .val (.int p0), .val (.int p1), .val (.int p2), .val (.int p3), .val (.ref b2), .val (.int (1 : Int32))] [(.int (3 : Int32))])
          refine Wk.st (g' := (mkF m 92 #[.val (.ref g), .val (.int node), .val (.int p0), .val (.int p1), .val (.int p2), .val (.int p3), .val (.ref b2), .val (.int (1 : Int32))] [(.ref b2), (.int (3 : Int32))])) (fun X t q => XS.aload X.here C.hx rfl (hb C.hby d3_90) rfl rfl q) ?_
          refine Wk.st (g' := (mkF m 93 #[.val (.ref g), .val (.int node), .val (.int p0), .val (.int p1), .val (.int p2), .val (.int p3), .val (.ref b2), .val (.int (1 : Int32))] [(.int (0 : Int32)), (.ref b2), (.int (3 : Int32))])) (fun X t q => XS.iconst X.here C.hx rfl (hb C.hby d3_92) q) ?_
          refine Wk.fLdI C F143 (i := 0) (by decide) (by decide) (by decide) (v := (.int (3 : Int32))) (by simp [up]) d3_93 ?_
          show Wk _ p l e _ s m _ below meth c n0 _ h141 1 4 (mkF m 94 #[.val (.ref g), .val (.int node), .val (.int p0), .val (.int p1), .val (.int p2), .val (.int p3), .val (.ref b2), .val (.int (1 : Int32))] [(.int (3 : Int32)), (.int (3 : Int32))])
          refine Wk.st (g' := (mkF m 97 #[.val (.ref g), .val (.int node), .val (.int p0), .val (.int p1), .val (.int p2), .val (.int p3), .val (.ref b2), .val (.int (1 : Int32))] [])) (fun X t q => XS.icmpNo X.here C.hx rfl (hb C.hby d3_94) rfl (XT.ii_ne_f (by decide)) q) ?_
          refine Wk.st (g' := (mkF m 99 #[.val (.ref g), .val (.int node), .val (.int p0), .val (.int p1), .val (.int p2), .val (.int p3), .val (.ref b2), .val (.int (1 : Int32))] [(.int (1 : Int32))])) (fun X t q => XS.iload X.here C.hx rfl (hb C.hby d3_97) rfl q) ?_
          refine Wk.st (g' := (mkF m 100 #[.val (.ref g), .val (.int node), .val (.int p0), .val (.int p1), .val (.int p2), .val (.int p3), .val (.ref b2), .val (.int (1 : Int32))] [(.int (2 : Int32)), (.int (1 : Int32))])) (fun X t q => XS.iconst X.here C.hx rfl (hb C.hby d3_99) q) ?_
          refine Wk.st (g' := (mkF m 113 #[.val (.ref g), .val (.int node), .val (.int p0), .val (.int p1), .val (.int p2), .val (.int p3), .val (.ref b2), .val (.int (1 : Int32))] [])) (fun X t q => XS.icmpYes X.here C.hx rfl (pc0 := 100) (pc' := 113) rfl (hb C.hby d3_100) rfl (XT.ii_lt_t (by decide)) (by decide) (by decide) q) ?_
          refine Wk.st (g' := (mkF m 115 #[.val (.ref g), .val (.int node), .val (.int p0), .val (.int p1), .val (.int p2), .val (.int p3), .val (.ref b2), .val (.int (1 : Int32))] [(.int (1 : Int32))])) (fun X t q => XS.iload X.here C.hx rfl (hb C.hby d3_113) rfl q) ?_
          refine Wk.st (g' := (mkF m 116 #[.val (.ref g), .val (.int node), .val (.int p0), .val (.int p1), .val (.int p2), .val (.int p3), .val (.ref b2), .val (.int (1 : Int32))] [(.int (3 : Int32)), (.int (1 : Int32))])) (fun X t q => XS.iconst X.here C.hx rfl (hb C.hby d3_115) q) ?_
          refine Wk.st (g' := (mkF m 129 #[.val (.ref g), .val (.int node), .val (.int p0), .val (.int p1), .val (.int p2), .val (.int p3), .val (.ref b2), .val (.int (1 : Int32))] [])) (fun X t q => XS.icmpYes X.here C.hx rfl (pc0 := 116) (pc' := 129) rfl (hb C.hby d3_116) rfl (XT.ii_lt_t (by decide)) (by decide) (by decide) q) ?_
          refine Wk.st (g' := (mkF m 131 #[.val (.ref g), .val (.int node), .val (.int p0), .val (.int p1), .val (.int p2), .val (.int p3), .val (.ref b2), .val (.int (1 : Int32))] [(.int (1 : Int32))])) (fun X t q => XS.iload X.here C.hx rfl (hb C.hby d3_129) rfl q) ?_
          refine Wk.st (g' := (mkF m 132 #[.val (.ref g), .val (.int node), .val (.int p0), .val (.int p1), .val (.int p2), .val (.int p3), .val (.ref b2), .val (.int (1 : Int32))] [(.int (4 : Int32)), (.int (1 : Int32))])) (fun X t q => XS.iconst X.here C.hx rfl (hb C.hby d3_131) q) ?_
          refine Wk.st (g' := (mkF m 145 #[.val (.ref g), .val (.int node), .val (.int p0), .val (.int p1), .val (.int p2), .val (.int p3), .val (.ref b2), .val (.int (1 : Int32))] [])) (fun X t q => XS.icmpYes X.here C.hx rfl (pc0 := 132) (pc' := 145) rfl (hb C.hby d3_132) rfl (XT.ii_lt_t (by decide)) (by decide) (by decide) q) ?_
          refine Wk.st (g' := (mkF m 146 #[.val (.ref g), .val (.int node), .val (.int p0), .val (.int p1), .val (.int p2), .val (.int p3), .val (.ref b2), .val (.int (1 : Int32))] [(.int (1 : Int32))])) (fun X t q => XS.iconst X.here C.hx rfl (hb C.hby d3_145) q) ?_
          refine Wk.st (g' := (mkF m 150 #[.val (.ref g), .val (.int node), .val (.int p0), .val (.int p1), .val (.int p2), .val (.int p3), .val (.ref b2), .val (.int (1 : Int32))] [(.int (1 : Int32))])) (fun X t q => XS.goto X.here C.hx rfl (pc0 := 146) (pc' := 150) rfl (hb C.hby d3_146) (by decide) (by decide) q) ?_
          exact Wk.retV C (t := .boolean) rfl rfl (Or.inl ⟨rfl, by simp, _, rfl⟩) d3_150 (by decide) (by decide) ⟨rfl, K148⟩
        · skip
          refine Wk.st (g' := (mkF m 72 #[.val (.ref g), .val (.int node), .val (.int p0), .val (.int p1), .val (.int p2), .val (.int p3), .val (.ref b2), .val (.int (0 : Int32))] [])) (fun X t q => XS.icmpYes X.here C.hx rfl (pc0 := 60) (pc' := 72) rfl (hb C.hby d3_60) rfl (XT.ii_ne_t hb140) (by decide) (by decide) q) ?_
          refine Wk.st (g' := (mkF m 73 #[.val (.ref g), .val (.int node), .val (.int p0), .val (.int p1), .val (.int p2), .val (.int p3), .val (.ref b2), .val (.int (0 : Int32))] [(.ref g)])) (fun X t q => XS.aloadN X.here C.hx rfl (hb C.hby d3_72) rfl rfl q) ?_
          refine Wk.fLen C F10 (z := (0 : Int32)) (by simp [cn, (to_no hJ hb14), (to_no hJ hb86), (to_no hJ hb122), (to_no hJ hb140)] <;> decide) d3_73 ?_
          show Wk _ p l e _ s m _ below meth c n0 _ h1 1 4 (mkF m 74 #[.val (.ref g), .val (.int node), .val (.int p0), .val (.int p1), .val (.int p2), .val (.int p3), .val (.ref b2), .val (.int (0 : Int32))] [(.int (0 : Int32))])
          refine Wk.st (g' := (mkF m 76 #[.val (.ref g), .val (.int node), .val (.int p0), .val (.int p1), .val (.int p2), .val (.int p3), .val (.ref b2), .val (.int (0 : Int32))] [(.int (0 : Int32)), (.int (0 : Int32))])) (fun X t q => XS.iload X.here C.hx rfl (hb C.hby d3_74) rfl q) ?_
          refine Wk.st (g' := (mkF m 81 #[.val (.ref g), .val (.int node), .val (.int p0), .val (.int p1), .val (.int p2), .val (.int p3), .val (.ref b2), .val (.int (0 : Int32))] [])) (fun X t q => XS.icmpYes X.here C.hx rfl (pc0 := 76) (pc' := 81) rfl (hb C.hby d3_76) rfl (XT.ii_eq_t (by decide)) (by decide) (by decide) q) ?_
          refine Wk.st (g' := (mkF m 83 #[.val (.ref g), .val (.int node), .val (.int p0), .val (.int p1), .val (.int p2), .val (.int p3), .val (.ref b2), .val (.int (0 : Int32))] [(.int (0 : Int32))])) (fun X t q => XS.iload X.here C.hx rfl (hb C.hby d3_81) rfl q) ?_
          refine Wk.st (g' := (mkF m 84 #[.val (.ref g), .val (.int node), .val (.int p0), .val (.int p1), .val (.int p2), .val (.int p3), .val (.ref b2), .val (.int (0 : Int32))] [(.int (1 : Int32)), (.int (0 : Int32))])) (fun X t q => XS.iconst X.here C.hx rfl (hb C.hby d3_83) q) ?_
          refine Wk.st (g' := (mkF m 97 #[.val (.ref g), .val (.int node), .val (.int p0), .val (.int p1), .val (.int p2), .val (.int p3), .val (.ref b2), .val (.int (0 : Int32))] [])) (fun X t q => XS.icmpYes X.here C.hx rfl (pc0 := 84) (pc' := 97) rfl (hb C.hby d3_84) rfl (XT.ii_lt_t (by decide)) (by decide) (by decide) q) ?_
          refine Wk.st (g' := (mkF m 99 #[.val (.ref g), .val (.int node), .val (.int p0), .val (.int p1), .val (.int p2), .val (.int p3), .val (.ref b2), .val (.int (0 : Int32))] [(.int (0 : Int32))])) (fun X t q => XS.iload X.here C.hx rfl (hb C.hby d3_97) rfl q) ?_
          refine Wk.st (g' := (mkF m 100 #[.val (.ref g), .val (.int node), .val (.int p0), .val (.int p1), .val (.int p2), .val (.int p3), .val (.ref b2), .val (.int (0 : Int32))] [(.int (2 : Int32)), (.int (0 : Int32))])) (fun X t q => XS.iconst X.here C.hx rfl (hb C.hby d3_99) q) ?_
          refine Wk.st (g' := (mkF m 113 #[.val (.ref g), .val (.int node), .val (.int p0), .val (.int p1), .val (.int p2), .val (.int p3), .val (.ref b2), .val (.int (0 : Int32))] [])) (fun X t q => XS.icmpYes X.here C.hx rfl (pc0 := 100) (pc' := 113) rfl (hb C.hby d3_100) rfl (XT.ii_lt_t (by decide)) (by decide) (by decide) q) ?_
          refine Wk.st (g' := (mkF m 115 #[.val (.ref g), .val (.int node), .val (.int p0), .val (.int p1), .val (.int p2), .val (.int p3), .val (.ref b2), .val (.int (0 : Int32))] [(.int (0 : Int32))])) (fun X t q => XS.iload X.here C.hx rfl (hb C.hby d3_113) rfl q) ?_
          refine Wk.st (g' := (mkF m 116 #[.val (.ref g), .val (.int node), .val (.int p0), .val (.int p1), .val (.int p2), .val (.int p3), .val (.ref b2), .val (.int (0 : Int32))] [(.int (3 : Int32)), (.int (0 : Int32))])) (fun X t q => XS.iconst X.here C.hx rfl (hb C.hby d3_115) q) ?_
          refine Wk.st (g' := (mkF m 129 #[.val (.ref g), .val (.int node), .val (.int p0), .val (.int p1), .val (.int p2), .val (.int p3), .val (.ref b2), .val (.int (0 : Int32))] [])) (fun X t q => XS.icmpYes X.here C.hx rfl (pc0 := 116) (pc' := 129) rfl (hb C.hby d3_116) rfl (XT.ii_lt_t (by decide)) (by decide) (by decide) q) ?_
          refine Wk.st (g' := (mkF m 131 #[.val (.ref g), .val (.int node), .val (.int p0), .val (.int p1), .val (.int p2), .val (.int p3), .val (.ref b2), .val (.int (0 : Int32))] [(.int (0 : Int32))])) (fun X t q => XS.iload X.here C.hx rfl (hb C.hby d3_129) rfl q) ?_
          refine Wk.st (g' := (mkF m 132 #[.val (.ref g), .val (.int node), .val (.int p0), .val (.int p1), .val (.int p2), .val (.int p3), .val (.ref b2), .val (.int (0 : Int32))] [(.int (4 : Int32)), (.int (0 : Int32))])) (fun X t q => XS.iconst X.here C.hx rfl (hb C.hby d3_131) q) ?_
          refine Wk.st (g' := (mkF m 145 #[.val (.ref g), .val (.int node), .val (.int p0), .val (.int p1), .val (.int p2), .val (.int p3), .val (.ref b2), .val (.int (0 : Int32))] [])) (fun X t q => XS.icmpYes X.here C.hx rfl (pc0 := 132) (pc' := 145) rfl (hb C.hby d3_132) rfl (XT.ii_lt_t (by decide)) (by decide) (by decide) q) ?_
          refine Wk.st (g' := (mkF m 146 #[.val (.ref g), .val (.int node), .val (.int p0), .val (.int p1), .val (.int p2), .val (.int p3), .val (.ref b2), .val (.int (0 : Int32))] [(.int (1 : Int32))])) (fun X t q => XS.iconst X.here C.hx rfl (hb C.hby d3_145) q) ?_
          refine Wk.st (g' := (mkF m 150 #[.val (.ref g), .val (.int node), .val (.int p0), .val (.int p1), .val (.int p2), .val (.int p3), .val (.ref b2), .val (.int (0 : Int32))] [(.int (1 : Int32))])) (fun X t q => XS.goto X.here C.hx rfl (pc0 := 146) (pc' := 150) rfl (hb C.hby d3_146) (by decide) (by decide) q) ?_
          exact Wk.retV C (t := .boolean) rfl rfl (Or.inl ⟨rfl, by simp, _, rfl⟩) d3_150 (by decide) (by decide) ⟨rfl, K13⟩
set_option maxRecDepth 65536 in
set_option maxHeartbeats 40000000 in
theorem law_met (l : Launch) (Z : State) (a0 : Array Value) (hw : ∀ d ∈ tables_1, d.before a0 Z = true) (n0 : Nat) (h0 : Heap) (hsz : n0 ≤ h0.size) (i0 i1 i2 i3 : Int32) :
    Met false l Z n0 x code maxLocals ret room_1 #[(.int i0), (.int i1), (.int i2), (.int i3)] h0 (fun v _ => v = some (.int 1) ∧ True) := by
  refine Met.of pn_0 #[.val (.int i0), .val (.int i1), .val (.int i2), .val (.int i3), .unset, .unset, .unset, .unset, .unset, .unset, .unset] (fun m => by first | (simp [entryFrame, mkF, argsToLocals, Value.category, maxLocals]; done) | rfl) ?_
  intro p e s m below meth c C
  refine Wk.st (g' := (mkF m 1 #[.val (.int i0), .val (.int i1), .val (.int i2), .val (.int i3), .unset, .unset, .unset, .unset, .unset, .unset, .unset] [(.int i0)])) (fun X t q => XS.iloadN X.here C.hx rfl (hb C.hby at_0) rfl q) ?_
  refine Wk.callS C (z := (⟨"com/example/understory/understory/RootedTreeChildrenOfPinLaw", "draw", "(I)I"⟩ : MethodName)) (hw _ (List.mem_of_getElem? (i := 0) rfl)) (hw _ (List.mem_of_getElem? (i := 1) rfl)) (hw _ (List.mem_of_getElem? (i := 2) rfl)) (hw _ (List.mem_of_getElem? (i := 3) rfl)) (by decide) (own_draw l Z a0 hw n0 h0 i0) (w := 0) (by decide) (by decide) pd_0 rfl (rest := []) rfl rfl (Nat.le_of_eq rfl) (by decide) (by decide) at_1 ?_
  rintro _ _ ⟨rfl, rfl⟩
  show Wk _ p l e _ s m _ below meth c n0 _ h0 0 0 (mkF m 4 #[.val (.int i0), .val (.int i1), .val (.int i2), .val (.int i3), .unset, .unset, .unset, .unset, .unset, .unset, .unset] [(.int ((i0 &&& (2147483647 : Int32)) % (5 : Int32) - (1 : Int32)))])
  refine Wk.st (g' := (mkF m 6 #[.val (.int i0), .val (.int i1), .val (.int i2), .val (.int i3), .val (.int ((i0 &&& (2147483647 : Int32)) % (5 : Int32) - (1 : Int32))), .unset, .unset, .unset, .unset, .unset, .unset] [])) (fun X t q => XS.istore X.here C.hx rfl (hb C.hby at_4) rfl (l' := #[.val (.int i0), .val (.int i1), .val (.int i2), .val (.int i3), .val (.int ((i0 &&& (2147483647 : Int32)) % (5 : Int32) - (1 : Int32))), .unset, .unset, .unset, .unset, .unset, .unset]) rfl q) ?_
  obtain ⟨p0, hp0⟩ : ∃ z, z = ((i0 &&& (2147483647 : Int32)) % (5 : Int32) - (1 : Int32)) := ⟨_, rfl⟩
  rw [← hp0]
  have r0 := draw_r i0
  rw [← hp0] at r0
  show Wk _ p l e _ s m _ below meth c n0 _ h0 0 0 (mkF m 6 #[.val (.int i0), .val (.int i1), .val (.int i2), .val (.int i3), .val (.int p0), .unset, .unset, .unset, .unset, .unset, .unset] [])
  refine Wk.st (g' := (mkF m 7 #[.val (.int i0), .val (.int i1), .val (.int i2), .val (.int i3), .val (.int p0), .unset, .unset, .unset, .unset, .unset, .unset] [(.int i1)])) (fun X t q => XS.iloadN X.here C.hx rfl (hb C.hby at_6) rfl q) ?_
  refine Wk.callS C (z := (⟨"com/example/understory/understory/RootedTreeChildrenOfPinLaw", "draw", "(I)I"⟩ : MethodName)) (hw _ (List.mem_of_getElem? (i := 0) rfl)) (hw _ (List.mem_of_getElem? (i := 1) rfl)) (hw _ (List.mem_of_getElem? (i := 2) rfl)) (hw _ (List.mem_of_getElem? (i := 3) rfl)) (by decide) (own_draw l Z a0 hw n0 h0 i1) (w := 0) (by decide) (by decide) pd_0 rfl (rest := []) rfl rfl (Nat.le_of_eq rfl) (by decide) (by decide) at_7 ?_
  rintro _ _ ⟨rfl, rfl⟩
  show Wk _ p l e _ s m _ below meth c n0 _ h0 0 0 (mkF m 10 #[.val (.int i0), .val (.int i1), .val (.int i2), .val (.int i3), .val (.int p0), .unset, .unset, .unset, .unset, .unset, .unset] [(.int ((i1 &&& (2147483647 : Int32)) % (5 : Int32) - (1 : Int32)))])
  refine Wk.st (g' := (mkF m 12 #[.val (.int i0), .val (.int i1), .val (.int i2), .val (.int i3), .val (.int p0), .val (.int ((i1 &&& (2147483647 : Int32)) % (5 : Int32) - (1 : Int32))), .unset, .unset, .unset, .unset, .unset] [])) (fun X t q => XS.istore X.here C.hx rfl (hb C.hby at_10) rfl (l' := #[.val (.int i0), .val (.int i1), .val (.int i2), .val (.int i3), .val (.int p0), .val (.int ((i1 &&& (2147483647 : Int32)) % (5 : Int32) - (1 : Int32))), .unset, .unset, .unset, .unset, .unset]) rfl q) ?_
  obtain ⟨p1, hp1⟩ : ∃ z, z = ((i1 &&& (2147483647 : Int32)) % (5 : Int32) - (1 : Int32)) := ⟨_, rfl⟩
  rw [← hp1]
  have r1 := draw_r i1
  rw [← hp1] at r1
  show Wk _ p l e _ s m _ below meth c n0 _ h0 0 0 (mkF m 12 #[.val (.int i0), .val (.int i1), .val (.int i2), .val (.int i3), .val (.int p0), .val (.int p1), .unset, .unset, .unset, .unset, .unset] [])
  refine Wk.st (g' := (mkF m 13 #[.val (.int i0), .val (.int i1), .val (.int i2), .val (.int i3), .val (.int p0), .val (.int p1), .unset, .unset, .unset, .unset, .unset] [(.int i2)])) (fun X t q => XS.iloadN X.here C.hx rfl (hb C.hby at_12) rfl q) ?_
  refine Wk.callS C (z := (⟨"com/example/understory/understory/RootedTreeChildrenOfPinLaw", "draw", "(I)I"⟩ : MethodName)) (hw _ (List.mem_of_getElem? (i := 0) rfl)) (hw _ (List.mem_of_getElem? (i := 1) rfl)) (hw _ (List.mem_of_getElem? (i := 2) rfl)) (hw _ (List.mem_of_getElem? (i := 3) rfl)) (by decide) (own_draw l Z a0 hw n0 h0 i2) (w := 0) (by decide) (by decide) pd_0 rfl (rest := []) rfl rfl (Nat.le_of_eq rfl) (by decide) (by decide) at_13 ?_
  rintro _ _ ⟨rfl, rfl⟩
  show Wk _ p l e _ s m _ below meth c n0 _ h0 0 0 (mkF m 16 #[.val (.int i0), .val (.int i1), .val (.int i2), .val (.int i3), .val (.int p0), .val (.int p1), .unset, .unset, .unset, .unset, .unset] [(.int ((i2 &&& (2147483647 : Int32)) % (5 : Int32) - (1 : Int32)))])
  refine Wk.st (g' := (mkF m 18 #[.val (.int i0), .val (.int i1), .val (.int i2), .val (.int i3), .val (.int p0), .val (.int p1), .val (.int ((i2 &&& (2147483647 : Int32)) % (5 : Int32) - (1 : Int32))), .unset, .unset, .unset, .unset] [])) (fun X t q => XS.istore X.here C.hx rfl (hb C.hby at_16) rfl (l' := #[.val (.int i0), .val (.int i1), .val (.int i2), .val (.int i3), .val (.int p0), .val (.int p1), .val (.int ((i2 &&& (2147483647 : Int32)) % (5 : Int32) - (1 : Int32))), .unset, .unset, .unset, .unset]) rfl q) ?_
  obtain ⟨p2, hp2⟩ : ∃ z, z = ((i2 &&& (2147483647 : Int32)) % (5 : Int32) - (1 : Int32)) := ⟨_, rfl⟩
  rw [← hp2]
  have r2 := draw_r i2
  rw [← hp2] at r2
  show Wk _ p l e _ s m _ below meth c n0 _ h0 0 0 (mkF m 18 #[.val (.int i0), .val (.int i1), .val (.int i2), .val (.int i3), .val (.int p0), .val (.int p1), .val (.int p2), .unset, .unset, .unset, .unset] [])
  refine Wk.st (g' := (mkF m 19 #[.val (.int i0), .val (.int i1), .val (.int i2), .val (.int i3), .val (.int p0), .val (.int p1), .val (.int p2), .unset, .unset, .unset, .unset] [(.int i3)])) (fun X t q => XS.iloadN X.here C.hx rfl (hb C.hby at_18) rfl q) ?_
  refine Wk.callS C (z := (⟨"com/example/understory/understory/RootedTreeChildrenOfPinLaw", "draw", "(I)I"⟩ : MethodName)) (hw _ (List.mem_of_getElem? (i := 0) rfl)) (hw _ (List.mem_of_getElem? (i := 1) rfl)) (hw _ (List.mem_of_getElem? (i := 2) rfl)) (hw _ (List.mem_of_getElem? (i := 3) rfl)) (by decide) (own_draw l Z a0 hw n0 h0 i3) (w := 0) (by decide) (by decide) pd_0 rfl (rest := []) rfl rfl (Nat.le_of_eq rfl) (by decide) (by decide) at_19 ?_
  rintro _ _ ⟨rfl, rfl⟩
  show Wk _ p l e _ s m _ below meth c n0 _ h0 0 0 (mkF m 22 #[.val (.int i0), .val (.int i1), .val (.int i2), .val (.int i3), .val (.int p0), .val (.int p1), .val (.int p2), .unset, .unset, .unset, .unset] [(.int ((i3 &&& (2147483647 : Int32)) % (5 : Int32) - (1 : Int32)))])
  refine Wk.st (g' := (mkF m 24 #[.val (.int i0), .val (.int i1), .val (.int i2), .val (.int i3), .val (.int p0), .val (.int p1), .val (.int p2), .val (.int ((i3 &&& (2147483647 : Int32)) % (5 : Int32) - (1 : Int32))), .unset, .unset, .unset] [])) (fun X t q => XS.istore X.here C.hx rfl (hb C.hby at_22) rfl (l' := #[.val (.int i0), .val (.int i1), .val (.int i2), .val (.int i3), .val (.int p0), .val (.int p1), .val (.int p2), .val (.int ((i3 &&& (2147483647 : Int32)) % (5 : Int32) - (1 : Int32))), .unset, .unset, .unset]) rfl q) ?_
  obtain ⟨p3, hp3⟩ : ∃ z, z = ((i3 &&& (2147483647 : Int32)) % (5 : Int32) - (1 : Int32)) := ⟨_, rfl⟩
  rw [← hp3]
  have r3 := draw_r i3
  rw [← hp3] at r3
  show Wk _ p l e _ s m _ below meth c n0 _ h0 0 0 (mkF m 24 #[.val (.int i0), .val (.int i1), .val (.int i2), .val (.int i3), .val (.int p0), .val (.int p1), .val (.int p2), .val (.int p3), .unset, .unset, .unset] [])
  refine Wk.st (g' := (mkF m 25 #[.val (.int i0), .val (.int i1), .val (.int i2), .val (.int i3), .val (.int p0), .val (.int p1), .val (.int p2), .val (.int p3), .unset, .unset, .unset] [(.int (4 : Int32))])) (fun X t q => XS.iconst X.here C.hx rfl (hb C.hby at_24) q) ?_
  refine Wk.fNewP C (hw _ (List.mem_of_getElem? (i := 5) rfl)) (ty := .int) (dv := (.int (0 : Int32))) (N := 4) (ad := "[I") rfl rfl (by decide) (by decide) (by decide) (cap := 4) (by decide) (by decide) at_25 (by decide) (by decide) ?_
  intro h1 b2 g3 E4 A5 F6
  have ge7 : n0 ≤ b2 := Nat.le_trans hsz (Nat.le_of_eq g3.symm)
  have gz8 : h0.size ≤ b2 := Nat.le_trans (Nat.le_refl h0.size) (Nat.le_of_eq g3.symm)
  have sz9 : n0 ≤ h1.size := Nat.le_trans hsz E4.1
  have sy10 : h0.size ≤ h1.size := Nat.le_trans (Nat.le_refl h0.size) E4.1
  show Wk _ p l e _ s m _ below meth c n0 _ h1 1 4 (mkF m 27 #[.val (.int i0), .val (.int i1), .val (.int i2), .val (.int i3), .val (.int p0), .val (.int p1), .val (.int p2), .val (.int p3), .unset, .unset, .unset] [(.ref b2)])
  refine Wk.st (g' := (mkF m 28 #[.val (.int i0), .val (.int i1), .val (.int i2), .val (.int i3), .val (.int p0), .val (.int p1), .val (.int p2), .val (.int p3), .unset, .unset, .unset] [(.ref b2), (.ref b2)])) (fun X t q => XS.dup X.here C.hx rfl (hb C.hby at_27) rfl rfl q) ?_
  refine Wk.st (g' := (mkF m 29 #[.val (.int i0), .val (.int i1), .val (.int i2), .val (.int i3), .val (.int p0), .val (.int p1), .val (.int p2), .val (.int p3), .unset, .unset, .unset] [(.int (0 : Int32)), (.ref b2), (.ref b2)])) (fun X t q => XS.iconst X.here C.hx rfl (hb C.hby at_28) q) ?_
  refine Wk.st (g' := (mkF m 31 #[.val (.int i0), .val (.int i1), .val (.int i2), .val (.int i3), .val (.int p0), .val (.int p1), .val (.int p2), .val (.int p3), .unset, .unset, .unset] [(.int p0), (.int (0 : Int32)), (.ref b2), (.ref b2)])) (fun X t q => XS.iload X.here C.hx rfl (hb C.hby at_29) rfl q) ?_
  refine Wk.fStI C F6 (i := 0) (by decide) (by decide) (by decide) ge7 at_31 ?_
  intro h11 W12 F13
  have F14 : Exa Z h11 b2 "[I" := A5.wr W12
  have sz15 : n0 ≤ h11.size := Nat.le_trans sz9 (Nat.le_of_eq W12.size.symm)
  have sy16 : h0.size ≤ h11.size := Nat.le_trans sy10 (Nat.le_of_eq W12.size.symm)
  show Wk _ p l e _ s m _ below meth c n0 _ h11 1 4 (mkF m 32 #[.val (.int i0), .val (.int i1), .val (.int i2), .val (.int i3), .val (.int p0), .val (.int p1), .val (.int p2), .val (.int p3), .unset, .unset, .unset] [(.ref b2)])
  refine Wk.st (g' := (mkF m 33 #[.val (.int i0), .val (.int i1), .val (.int i2), .val (.int i3), .val (.int p0), .val (.int p1), .val (.int p2), .val (.int p3), .unset, .unset, .unset] [(.ref b2), (.ref b2)])) (fun X t q => XS.dup X.here C.hx rfl (hb C.hby at_32) rfl rfl q) ?_
  refine Wk.st (g' := (mkF m 34 #[.val (.int i0), .val (.int i1), .val (.int i2), .val (.int i3), .val (.int p0), .val (.int p1), .val (.int p2), .val (.int p3), .unset, .unset, .unset] [(.int (1 : Int32)), (.ref b2), (.ref b2)])) (fun X t q => XS.iconst X.here C.hx rfl (hb C.hby at_33) q) ?_
  refine Wk.st (g' := (mkF m 36 #[.val (.int i0), .val (.int i1), .val (.int i2), .val (.int i3), .val (.int p0), .val (.int p1), .val (.int p2), .val (.int p3), .unset, .unset, .unset] [(.int p1), (.int (1 : Int32)), (.ref b2), (.ref b2)])) (fun X t q => XS.iload X.here C.hx rfl (hb C.hby at_34) rfl q) ?_
  refine Wk.fStI C F13 (i := 1) (by decide) (by decide) (by decide) ge7 at_36 ?_
  intro h17 W18 F19
  have F20 : Exa Z h17 b2 "[I" := F14.wr W18
  have sz21 : n0 ≤ h17.size := Nat.le_trans sz15 (Nat.le_of_eq W18.size.symm)
  have sy22 : h0.size ≤ h17.size := Nat.le_trans sy16 (Nat.le_of_eq W18.size.symm)
  show Wk _ p l e _ s m _ below meth c n0 _ h17 1 4 (mkF m 37 #[.val (.int i0), .val (.int i1), .val (.int i2), .val (.int i3), .val (.int p0), .val (.int p1), .val (.int p2), .val (.int p3), .unset, .unset, .unset] [(.ref b2)])
  refine Wk.st (g' := (mkF m 38 #[.val (.int i0), .val (.int i1), .val (.int i2), .val (.int i3), .val (.int p0), .val (.int p1), .val (.int p2), .val (.int p3), .unset, .unset, .unset] [(.ref b2), (.ref b2)])) (fun X t q => XS.dup X.here C.hx rfl (hb C.hby at_37) rfl rfl q) ?_
  refine Wk.st (g' := (mkF m 39 #[.val (.int i0), .val (.int i1), .val (.int i2), .val (.int i3), .val (.int p0), .val (.int p1), .val (.int p2), .val (.int p3), .unset, .unset, .unset] [(.int (2 : Int32)), (.ref b2), (.ref b2)])) (fun X t q => XS.iconst X.here C.hx rfl (hb C.hby at_38) q) ?_
  refine Wk.st (g' := (mkF m 41 #[.val (.int i0), .val (.int i1), .val (.int i2), .val (.int i3), .val (.int p0), .val (.int p1), .val (.int p2), .val (.int p3), .unset, .unset, .unset] [(.int p2), (.int (2 : Int32)), (.ref b2), (.ref b2)])) (fun X t q => XS.iload X.here C.hx rfl (hb C.hby at_39) rfl q) ?_
  refine Wk.fStI C F19 (i := 2) (by decide) (by decide) (by decide) ge7 at_41 ?_
  intro h23 W24 F25
  have F26 : Exa Z h23 b2 "[I" := F20.wr W24
  have sz27 : n0 ≤ h23.size := Nat.le_trans sz21 (Nat.le_of_eq W24.size.symm)
  have sy28 : h0.size ≤ h23.size := Nat.le_trans sy22 (Nat.le_of_eq W24.size.symm)
  show Wk _ p l e _ s m _ below meth c n0 _ h23 1 4 (mkF m 42 #[.val (.int i0), .val (.int i1), .val (.int i2), .val (.int i3), .val (.int p0), .val (.int p1), .val (.int p2), .val (.int p3), .unset, .unset, .unset] [(.ref b2)])
  refine Wk.st (g' := (mkF m 43 #[.val (.int i0), .val (.int i1), .val (.int i2), .val (.int i3), .val (.int p0), .val (.int p1), .val (.int p2), .val (.int p3), .unset, .unset, .unset] [(.ref b2), (.ref b2)])) (fun X t q => XS.dup X.here C.hx rfl (hb C.hby at_42) rfl rfl q) ?_
  refine Wk.st (g' := (mkF m 44 #[.val (.int i0), .val (.int i1), .val (.int i2), .val (.int i3), .val (.int p0), .val (.int p1), .val (.int p2), .val (.int p3), .unset, .unset, .unset] [(.int (3 : Int32)), (.ref b2), (.ref b2)])) (fun X t q => XS.iconst X.here C.hx rfl (hb C.hby at_43) q) ?_
  refine Wk.st (g' := (mkF m 46 #[.val (.int i0), .val (.int i1), .val (.int i2), .val (.int i3), .val (.int p0), .val (.int p1), .val (.int p2), .val (.int p3), .unset, .unset, .unset] [(.int p3), (.int (3 : Int32)), (.ref b2), (.ref b2)])) (fun X t q => XS.iload X.here C.hx rfl (hb C.hby at_44) rfl q) ?_
  refine Wk.fStI C F25 (i := 3) (by decide) (by decide) (by decide) ge7 at_46 ?_
  intro h29 W30 F31
  have F32 : Exa Z h29 b2 "[I" := F26.wr W30
  have sz33 : n0 ≤ h29.size := Nat.le_trans sz27 (Nat.le_of_eq W30.size.symm)
  have sy34 : h0.size ≤ h29.size := Nat.le_trans sy28 (Nat.le_of_eq W30.size.symm)
  show Wk _ p l e _ s m _ below meth c n0 _ h29 1 4 (mkF m 47 #[.val (.int i0), .val (.int i1), .val (.int i2), .val (.int i3), .val (.int p0), .val (.int p1), .val (.int p2), .val (.int p3), .unset, .unset, .unset] [(.ref b2)])
  refine Wk.st (g' := (mkF m 49 #[.val (.int i0), .val (.int i1), .val (.int i2), .val (.int i3), .val (.int p0), .val (.int p1), .val (.int p2), .val (.int p3), .val (.ref b2), .unset, .unset] [])) (fun X t q => XS.astore X.here C.hx rfl (hb C.hby at_47) rfl rfl (l' := #[.val (.int i0), .val (.int i1), .val (.int i2), .val (.int i3), .val (.int p0), .val (.int p1), .val (.int p2), .val (.int p3), .val (.ref b2), .unset, .unset]) rfl q) ?_
  refine Wk.st (g' := (mkF m 51 #[.val (.int i0), .val (.int i1), .val (.int i2), .val (.int i3), .val (.int p0), .val (.int p1), .val (.int p2), .val (.int p3), .val (.ref b2), .unset, .unset] [(.ref b2)])) (fun X t q => XS.aload X.here C.hx rfl (hb C.hby at_49) rfl rfl q) ?_
  refine Wk.callS C (z := (⟨"com/example/understory/understory/RootedTree", "childrenOf", "([I)[[I"⟩ : MethodName)) (hw _ (List.mem_of_getElem? (i := 6) rfl)) (hw _ (List.mem_of_getElem? (i := 7) rfl)) (hw _ (List.mem_of_getElem? (i := 8) rfl)) (hw _ (List.mem_of_getElem? (i := 9) rfl)) (by decide) (own_children l Z a0 hw n0 h29 sz33 b2 p0 p1 p2 p3 r0 r1 r2 r3 F31) (w := 0) (by decide) (by decide) pd_1 rfl (rest := []) rfl rfl (Nat.le_of_eq rfl) (by decide) (by decide) at_51 ?_
  rintro _ h35 ⟨ch, c0, c1, c2, c3, rfl, KC, z0, z1, z2, z3, z4, FC, FC0, FC1, FC2, FC3⟩
  show Wk _ p l e _ s m _ below meth c n0 _ h35 9 36 (mkF m 54 #[.val (.int i0), .val (.int i1), .val (.int i2), .val (.int i3), .val (.int p0), .val (.int p1), .val (.int p2), .val (.int p3), .val (.ref b2), .unset, .unset] [(.ref ch)])
  have ne36 : b2 ≠ ch := Nat.ne_of_lt (Nat.lt_of_lt_of_le F31.lt z0)
  have ne37 : b2 ≠ c0 := Nat.ne_of_lt (Nat.lt_of_lt_of_le F31.lt z1)
  have ne38 : b2 ≠ c1 := Nat.ne_of_lt (Nat.lt_of_lt_of_le F31.lt z2)
  have ne39 : b2 ≠ c2 := Nat.ne_of_lt (Nat.lt_of_lt_of_le F31.lt z3)
  have ne40 : b2 ≠ c3 := Nat.ne_of_lt (Nat.lt_of_lt_of_le F31.lt z4)
  have F41 : Fa Z h35 b2 .int 4 (up (up (up (up (fun _ => (.int (0 : Int32))) 0 (.int p0)) 1 (.int p1)) 2 (.int p2)) 3 (.int p3)) := F31.keep KC nm0
  have sz42 : n0 ≤ h35.size := Nat.le_trans sz33 KC.1
  refine Wk.st (g' := (mkF m 56 #[.val (.int i0), .val (.int i1), .val (.int i2), .val (.int i3), .val (.int p0), .val (.int p1), .val (.int p2), .val (.int p3), .val (.ref b2), .val (.ref ch), .unset] [])) (fun X t q => XS.astore X.here C.hx rfl (hb C.hby at_54) rfl rfl (l' := #[.val (.int i0), .val (.int i1), .val (.int i2), .val (.int i3), .val (.int p0), .val (.int p1), .val (.int p2), .val (.int p3), .val (.ref b2), .val (.ref ch), .unset]) rfl q) ?_
  refine Wk.st (g' := (mkF m 58 #[.val (.int i0), .val (.int i1), .val (.int i2), .val (.int i3), .val (.int p0), .val (.int p1), .val (.int p2), .val (.int p3), .val (.ref b2), .val (.ref ch), .unset] [(.ref ch)])) (fun X t q => XS.aload X.here C.hx rfl (hb C.hby at_56) rfl rfl q) ?_
  refine Wk.st (g' := (mkF m 61 #[.val (.int i0), .val (.int i1), .val (.int i2), .val (.int i3), .val (.int p0), .val (.int p1), .val (.int p2), .val (.int p3), .val (.ref b2), .val (.ref ch), .unset] [])) (fun X t q => XS.ifnullNo X.here C.hx rfl (hb C.hby at_58) rfl q) ?_
  refine Wk.st (g' := (mkF m 63 #[.val (.int i0), .val (.int i1), .val (.int i2), .val (.int i3), .val (.int p0), .val (.int p1), .val (.int p2), .val (.int p3), .val (.ref b2), .val (.ref ch), .unset] [(.ref ch)])) (fun X t q => XS.aload X.here C.hx rfl (hb C.hby at_61) rfl rfl q) ?_
  refine Wk.fLenA C FC (z := (4 : Int32)) (by decide) at_63 ?_
  show Wk _ p l e _ s m _ below meth c n0 _ h35 9 36 (mkF m 64 #[.val (.int i0), .val (.int i1), .val (.int i2), .val (.int i3), .val (.int p0), .val (.int p1), .val (.int p2), .val (.int p3), .val (.ref b2), .val (.ref ch), .unset] [(.int (4 : Int32))])
  refine Wk.st (g' := (mkF m 65 #[.val (.int i0), .val (.int i1), .val (.int i2), .val (.int i3), .val (.int p0), .val (.int p1), .val (.int p2), .val (.int p3), .val (.ref b2), .val (.ref ch), .unset] [(.int (4 : Int32)), (.int (4 : Int32))])) (fun X t q => XS.iconst X.here C.hx rfl (hb C.hby at_64) q) ?_
  refine Wk.st (g' := (mkF m 70 #[.val (.int i0), .val (.int i1), .val (.int i2), .val (.int i3), .val (.int p0), .val (.int p1), .val (.int p2), .val (.int p3), .val (.ref b2), .val (.ref ch), .unset] [])) (fun X t q => XS.icmpYes X.here C.hx rfl (pc0 := 65) (pc' := 70) rfl (hb C.hby at_65) rfl (XT.ii_eq_t (by decide)) (by decide) (by decide) q) ?_
  refine Wk.st (g' := (mkF m 72 #[.val (.int i0), .val (.int i1), .val (.int i2), .val (.int i3), .val (.int p0), .val (.int p1), .val (.int p2), .val (.int p3), .val (.ref b2), .val (.ref ch), .unset] [(.ref b2)])) (fun X t q => XS.aload X.here C.hx rfl (hb C.hby at_70) rfl rfl q) ?_
  refine Wk.st (g' := (mkF m 73 #[.val (.int i0), .val (.int i1), .val (.int i2), .val (.int i3), .val (.int p0), .val (.int p1), .val (.int p2), .val (.int p3), .val (.ref b2), .val (.ref ch), .unset] [(.int (0 : Int32)), (.ref b2)])) (fun X t q => XS.iconst X.here C.hx rfl (hb C.hby at_72) q) ?_
  refine Wk.fLdI C F41 (i := 0) (by decide) (by decide) (by decide) (v := (.int p0)) (by simp [up]) at_73 ?_
  show Wk _ p l e _ s m _ below meth c n0 _ h35 9 36 (mkF m 74 #[.val (.int i0), .val (.int i1), .val (.int i2), .val (.int i3), .val (.int p0), .val (.int p1), .val (.int p2), .val (.int p3), .val (.ref b2), .val (.ref ch), .unset] [(.int p0)])
  refine Wk.st (g' := (mkF m 76 #[.val (.int i0), .val (.int i1), .val (.int i2), .val (.int i3), .val (.int p0), .val (.int p1), .val (.int p2), .val (.int p3), .val (.ref b2), .val (.ref ch), .unset] [(.int p0), (.int p0)])) (fun X t q => XS.iload X.here C.hx rfl (hb C.hby at_74) rfl q) ?_
  refine Wk.st (g' := (mkF m 79 #[.val (.int i0), .val (.int i1), .val (.int i2), .val (.int i3), .val (.int p0), .val (.int p1), .val (.int p2), .val (.int p3), .val (.ref b2), .val (.ref ch), .unset] [])) (fun X t q => XS.icmpNo X.here C.hx rfl (hb C.hby at_76) rfl (XT.ii_ne_f rfl) q) ?_
  refine Wk.st (g' := (mkF m 81 #[.val (.int i0), .val (.int i1), .val (.int i2), .val (.int i3), .val (.int p0), .val (.int p1), .val (.int p2), .val (.int p3), .val (.ref b2), .val (.ref ch), .unset] [(.ref b2)])) (fun X t q => XS.aload X.here C.hx rfl (hb C.hby at_79) rfl rfl q) ?_
  refine Wk.st (g' := (mkF m 82 #[.val (.int i0), .val (.int i1), .val (.int i2), .val (.int i3), .val (.int p0), .val (.int p1), .val (.int p2), .val (.int p3), .val (.ref b2), .val (.ref ch), .unset] [(.int (1 : Int32)), (.ref b2)])) (fun X t q => XS.iconst X.here C.hx rfl (hb C.hby at_81) q) ?_
  refine Wk.fLdI C F41 (i := 1) (by decide) (by decide) (by decide) (v := (.int p1)) (by simp [up]) at_82 ?_
  show Wk _ p l e _ s m _ below meth c n0 _ h35 9 36 (mkF m 83 #[.val (.int i0), .val (.int i1), .val (.int i2), .val (.int i3), .val (.int p0), .val (.int p1), .val (.int p2), .val (.int p3), .val (.ref b2), .val (.ref ch), .unset] [(.int p1)])
  refine Wk.st (g' := (mkF m 85 #[.val (.int i0), .val (.int i1), .val (.int i2), .val (.int i3), .val (.int p0), .val (.int p1), .val (.int p2), .val (.int p3), .val (.ref b2), .val (.ref ch), .unset] [(.int p1), (.int p1)])) (fun X t q => XS.iload X.here C.hx rfl (hb C.hby at_83) rfl q) ?_
  refine Wk.st (g' := (mkF m 88 #[.val (.int i0), .val (.int i1), .val (.int i2), .val (.int i3), .val (.int p0), .val (.int p1), .val (.int p2), .val (.int p3), .val (.ref b2), .val (.ref ch), .unset] [])) (fun X t q => XS.icmpNo X.here C.hx rfl (hb C.hby at_85) rfl (XT.ii_ne_f rfl) q) ?_
  refine Wk.st (g' := (mkF m 90 #[.val (.int i0), .val (.int i1), .val (.int i2), .val (.int i3), .val (.int p0), .val (.int p1), .val (.int p2), .val (.int p3), .val (.ref b2), .val (.ref ch), .unset] [(.ref b2)])) (fun X t q => XS.aload X.here C.hx rfl (hb C.hby at_88) rfl rfl q) ?_
  refine Wk.st (g' := (mkF m 91 #[.val (.int i0), .val (.int i1), .val (.int i2), .val (.int i3), .val (.int p0), .val (.int p1), .val (.int p2), .val (.int p3), .val (.ref b2), .val (.ref ch), .unset] [(.int (2 : Int32)), (.ref b2)])) (fun X t q => XS.iconst X.here C.hx rfl (hb C.hby at_90) q) ?_
  refine Wk.fLdI C F41 (i := 2) (by decide) (by decide) (by decide) (v := (.int p2)) (by simp [up]) at_91 ?_
  show Wk _ p l e _ s m _ below meth c n0 _ h35 9 36 (mkF m 92 #[.val (.int i0), .val (.int i1), .val (.int i2), .val (.int i3), .val (.int p0), .val (.int p1), .val (.int p2), .val (.int p3), .val (.ref b2), .val (.ref ch), .unset] [(.int p2)])
  refine Wk.st (g' := (mkF m 94 #[.val (.int i0), .val (.int i1), .val (.int i2), .val (.int i3), .val (.int p0), .val (.int p1), .val (.int p2), .val (.int p3), .val (.ref b2), .val (.ref ch), .unset] [(.int p2), (.int p2)])) (fun X t q => XS.iload X.here C.hx rfl (hb C.hby at_92) rfl q) ?_
  refine Wk.st (g' := (mkF m 97 #[.val (.int i0), .val (.int i1), .val (.int i2), .val (.int i3), .val (.int p0), .val (.int p1), .val (.int p2), .val (.int p3), .val (.ref b2), .val (.ref ch), .unset] [])) (fun X t q => XS.icmpNo X.here C.hx rfl (hb C.hby at_94) rfl (XT.ii_ne_f rfl) q) ?_
  refine Wk.st (g' := (mkF m 99 #[.val (.int i0), .val (.int i1), .val (.int i2), .val (.int i3), .val (.int p0), .val (.int p1), .val (.int p2), .val (.int p3), .val (.ref b2), .val (.ref ch), .unset] [(.ref b2)])) (fun X t q => XS.aload X.here C.hx rfl (hb C.hby at_97) rfl rfl q) ?_
  refine Wk.st (g' := (mkF m 100 #[.val (.int i0), .val (.int i1), .val (.int i2), .val (.int i3), .val (.int p0), .val (.int p1), .val (.int p2), .val (.int p3), .val (.ref b2), .val (.ref ch), .unset] [(.int (3 : Int32)), (.ref b2)])) (fun X t q => XS.iconst X.here C.hx rfl (hb C.hby at_99) q) ?_
  refine Wk.fLdI C F41 (i := 3) (by decide) (by decide) (by decide) (v := (.int p3)) (by simp [up]) at_100 ?_
  show Wk _ p l e _ s m _ below meth c n0 _ h35 9 36 (mkF m 101 #[.val (.int i0), .val (.int i1), .val (.int i2), .val (.int i3), .val (.int p0), .val (.int p1), .val (.int p2), .val (.int p3), .val (.ref b2), .val (.ref ch), .unset] [(.int p3)])
  refine Wk.st (g' := (mkF m 103 #[.val (.int i0), .val (.int i1), .val (.int i2), .val (.int i3), .val (.int p0), .val (.int p1), .val (.int p2), .val (.int p3), .val (.ref b2), .val (.ref ch), .unset] [(.int p3), (.int p3)])) (fun X t q => XS.iload X.here C.hx rfl (hb C.hby at_101) rfl q) ?_
  refine Wk.st (g' := (mkF m 106 #[.val (.int i0), .val (.int i1), .val (.int i2), .val (.int i3), .val (.int p0), .val (.int p1), .val (.int p2), .val (.int p3), .val (.ref b2), .val (.ref ch), .unset] [])) (fun X t q => XS.icmpNo X.here C.hx rfl (hb C.hby at_103) rfl (XT.ii_ne_f rfl) q) ?_
  refine Wk.st (g' := (mkF m 107 #[.val (.int i0), .val (.int i1), .val (.int i2), .val (.int i3), .val (.int p0), .val (.int p1), .val (.int p2), .val (.int p3), .val (.ref b2), .val (.ref ch), .unset] [(.int (1 : Int32))])) (fun X t q => XS.iconst X.here C.hx rfl (hb C.hby at_106) q) ?_
  refine Wk.st (g' := (mkF m 111 #[.val (.int i0), .val (.int i1), .val (.int i2), .val (.int i3), .val (.int p0), .val (.int p1), .val (.int p2), .val (.int p3), .val (.ref b2), .val (.ref ch), .unset] [(.int (1 : Int32))])) (fun X t q => XS.goto X.here C.hx rfl (pc0 := 107) (pc' := 111) rfl (hb C.hby at_107) (by decide) (by decide) q) ?_
  refine Wk.st (g' := (mkF m 113 #[.val (.int i0), .val (.int i1), .val (.int i2), .val (.int i3), .val (.int p0), .val (.int p1), .val (.int p2), .val (.int p3), .val (.ref b2), .val (.ref ch), .val (.int (1 : Int32))] [])) (fun X t q => XS.istore X.here C.hx rfl (hb C.hby at_111) rfl (l' := #[.val (.int i0), .val (.int i1), .val (.int i2), .val (.int i3), .val (.int p0), .val (.int p1), .val (.int p2), .val (.int p3), .val (.ref b2), .val (.ref ch), .val (.int (1 : Int32))]) rfl q) ?_
  refine Wk.st (g' := (mkF m 115 #[.val (.int i0), .val (.int i1), .val (.int i2), .val (.int i3), .val (.int p0), .val (.int p1), .val (.int p2), .val (.int p3), .val (.ref b2), .val (.ref ch), .val (.int (1 : Int32))] [(.int (1 : Int32))])) (fun X t q => XS.iload X.here C.hx rfl (hb C.hby at_113) rfl q) ?_
  refine Wk.st (g' := (mkF m 118 #[.val (.int i0), .val (.int i1), .val (.int i2), .val (.int i3), .val (.int p0), .val (.int p1), .val (.int p2), .val (.int p3), .val (.ref b2), .val (.ref ch), .val (.int (1 : Int32))] [])) (fun X t q => XS.ifNo X.here C.hx rfl (hb C.hby at_115) rfl (XT.i0_eq_f (by decide)) q) ?_
  refine Wk.st (g' := (mkF m 120 #[.val (.int i0), .val (.int i1), .val (.int i2), .val (.int i3), .val (.int p0), .val (.int p1), .val (.int p2), .val (.int p3), .val (.ref b2), .val (.ref ch), .val (.int (1 : Int32))] [(.ref ch)])) (fun X t q => XS.aload X.here C.hx rfl (hb C.hby at_118) rfl rfl q) ?_
  refine Wk.st (g' := (mkF m 121 #[.val (.int i0), .val (.int i1), .val (.int i2), .val (.int i3), .val (.int p0), .val (.int p1), .val (.int p2), .val (.int p3), .val (.ref b2), .val (.ref ch), .val (.int (1 : Int32))] [(.int (0 : Int32)), (.ref ch)])) (fun X t q => XS.iconst X.here C.hx rfl (hb C.hby at_120) q) ?_
  refine Wk.fLdA C FC (i := 0) (by decide) (by decide) (by decide) (v := (.ref c0)) (by simp [up]) at_121 ?_
  show Wk _ p l e _ s m _ below meth c n0 _ h35 9 36 (mkF m 122 #[.val (.int i0), .val (.int i1), .val (.int i2), .val (.int i3), .val (.int p0), .val (.int p1), .val (.int p2), .val (.int p3), .val (.ref b2), .val (.ref ch), .val (.int (1 : Int32))] [(.ref c0)])
  refine Wk.st (g' := (mkF m 123 #[.val (.int i0), .val (.int i1), .val (.int i2), .val (.int i3), .val (.int p0), .val (.int p1), .val (.int p2), .val (.int p3), .val (.ref b2), .val (.ref ch), .val (.int (1 : Int32))] [(.int (0 : Int32)), (.ref c0)])) (fun X t q => XS.iconst X.here C.hx rfl (hb C.hby at_122) q) ?_
  refine Wk.st (g' := (mkF m 125 #[.val (.int i0), .val (.int i1), .val (.int i2), .val (.int i3), .val (.int p0), .val (.int p1), .val (.int p2), .val (.int p3), .val (.ref b2), .val (.ref ch), .val (.int (1 : Int32))] [(.int p0), (.int (0 : Int32)), (.ref c0)])) (fun X t q => XS.iload X.here C.hx rfl (hb C.hby at_123) rfl q) ?_
  refine Wk.st (g' := (mkF m 127 #[.val (.int i0), .val (.int i1), .val (.int i2), .val (.int i3), .val (.int p0), .val (.int p1), .val (.int p2), .val (.int p3), .val (.ref b2), .val (.ref ch), .val (.int (1 : Int32))] [(.int p1), (.int p0), (.int (0 : Int32)), (.ref c0)])) (fun X t q => XS.iload X.here C.hx rfl (hb C.hby at_125) rfl q) ?_
  refine Wk.st (g' := (mkF m 129 #[.val (.int i0), .val (.int i1), .val (.int i2), .val (.int i3), .val (.int p0), .val (.int p1), .val (.int p2), .val (.int p3), .val (.ref b2), .val (.ref ch), .val (.int (1 : Int32))] [(.int p2), (.int p1), (.int p0), (.int (0 : Int32)), (.ref c0)])) (fun X t q => XS.iload X.here C.hx rfl (hb C.hby at_127) rfl q) ?_
  refine Wk.st (g' := (mkF m 131 #[.val (.int i0), .val (.int i1), .val (.int i2), .val (.int i3), .val (.int p0), .val (.int p1), .val (.int p2), .val (.int p3), .val (.ref b2), .val (.ref ch), .val (.int (1 : Int32))] [(.int p3), (.int p2), (.int p1), (.int p0), (.int (0 : Int32)), (.ref c0)])) (fun X t q => XS.iload X.here C.hx rfl (hb C.hby at_129) rfl q) ?_
  refine Wk.callS C (z := (⟨"com/example/understory/understory/RootedTreeChildrenOfPinLaw", "holds", "([IIIIII)Z"⟩ : MethodName)) (hw _ (List.mem_of_getElem? (i := 13) rfl)) (hw _ (List.mem_of_getElem? (i := 14) rfl)) (hw _ (List.mem_of_getElem? (i := 2) rfl)) (hw _ (List.mem_of_getElem? (i := 15) rfl)) (by decide) (own_holds l Z a0 hw n0 h35 sz42 c0 (0 : Int32) p0 p1 p2 p3 0 (by decide) FC0) (w := 0) (by decide) (by decide) pd_2 rfl (rest := []) rfl rfl (Nat.le_of_eq rfl) (by decide) (by decide) at_131 ?_
  rintro _ h43 ⟨rfl, K44⟩
  show Wk _ p l e _ s m _ below meth c n0 _ h43 10 40 (mkF m 134 #[.val (.int i0), .val (.int i1), .val (.int i2), .val (.int i3), .val (.int p0), .val (.int p1), .val (.int p2), .val (.int p3), .val (.ref b2), .val (.ref ch), .val (.int (1 : Int32))] [(.int (1 : Int32))])
  have F45 : Fa Z h43 b2 .int 4 (up (up (up (up (fun _ => (.int (0 : Int32))) 0 (.int p0)) 1 (.int p1)) 2 (.int p2)) 3 (.int p3)) := F41.keep K44 nm0
  have F46 : FaA Z h43 ch .int "[I" 4 (up (up (up (up (fun _ => .null) 0 (.ref c0)) 1 (.ref c1)) 2 (.ref c2)) 3 (.ref c3)) := FC.keep K44 nm0
  have F47 : Fa Z h43 c0 .int (cn [p3, p2, p1, p0] 0).toNatClampNeg (fun t => (.int (gk [p3, p2, p1, p0] 0 t))) := FC0.keep K44 nm0
  have F48 : Fa Z h43 c1 .int (cn [p3, p2, p1, p0] 1).toNatClampNeg (fun t => (.int (gk [p3, p2, p1, p0] 1 t))) := FC1.keep K44 nm0
  have F49 : Fa Z h43 c2 .int (cn [p3, p2, p1, p0] 2).toNatClampNeg (fun t => (.int (gk [p3, p2, p1, p0] 2 t))) := FC2.keep K44 nm0
  have F50 : Fa Z h43 c3 .int (cn [p3, p2, p1, p0] 3).toNatClampNeg (fun t => (.int (gk [p3, p2, p1, p0] 3 t))) := FC3.keep K44 nm0
  have sz51 : n0 ≤ h43.size := Nat.le_trans sz42 K44.1
  refine Wk.st (g' := (mkF m 137 #[.val (.int i0), .val (.int i1), .val (.int i2), .val (.int i3), .val (.int p0), .val (.int p1), .val (.int p2), .val (.int p3), .val (.ref b2), .val (.ref ch), .val (.int (1 : Int32))] [])) (fun X t q => XS.ifNo X.here C.hx rfl (hb C.hby at_134) rfl (XT.i0_eq_f (by decide)) q) ?_
  refine Wk.st (g' := (mkF m 139 #[.val (.int i0), .val (.int i1), .val (.int i2), .val (.int i3), .val (.int p0), .val (.int p1), .val (.int p2), .val (.int p3), .val (.ref b2), .val (.ref ch), .val (.int (1 : Int32))] [(.ref ch)])) (fun X t q => XS.aload X.here C.hx rfl (hb C.hby at_137) rfl rfl q) ?_
  refine Wk.st (g' := (mkF m 140 #[.val (.int i0), .val (.int i1), .val (.int i2), .val (.int i3), .val (.int p0), .val (.int p1), .val (.int p2), .val (.int p3), .val (.ref b2), .val (.ref ch), .val (.int (1 : Int32))] [(.int (1 : Int32)), (.ref ch)])) (fun X t q => XS.iconst X.here C.hx rfl (hb C.hby at_139) q) ?_
  refine Wk.fLdA C F46 (i := 1) (by decide) (by decide) (by decide) (v := (.ref c1)) (by simp [up]) at_140 ?_
  show Wk _ p l e _ s m _ below meth c n0 _ h43 10 40 (mkF m 141 #[.val (.int i0), .val (.int i1), .val (.int i2), .val (.int i3), .val (.int p0), .val (.int p1), .val (.int p2), .val (.int p3), .val (.ref b2), .val (.ref ch), .val (.int (1 : Int32))] [(.ref c1)])
  refine Wk.st (g' := (mkF m 142 #[.val (.int i0), .val (.int i1), .val (.int i2), .val (.int i3), .val (.int p0), .val (.int p1), .val (.int p2), .val (.int p3), .val (.ref b2), .val (.ref ch), .val (.int (1 : Int32))] [(.int (1 : Int32)), (.ref c1)])) (fun X t q => XS.iconst X.here C.hx rfl (hb C.hby at_141) q) ?_
  refine Wk.st (g' := (mkF m 144 #[.val (.int i0), .val (.int i1), .val (.int i2), .val (.int i3), .val (.int p0), .val (.int p1), .val (.int p2), .val (.int p3), .val (.ref b2), .val (.ref ch), .val (.int (1 : Int32))] [(.int p0), (.int (1 : Int32)), (.ref c1)])) (fun X t q => XS.iload X.here C.hx rfl (hb C.hby at_142) rfl q) ?_
  refine Wk.st (g' := (mkF m 146 #[.val (.int i0), .val (.int i1), .val (.int i2), .val (.int i3), .val (.int p0), .val (.int p1), .val (.int p2), .val (.int p3), .val (.ref b2), .val (.ref ch), .val (.int (1 : Int32))] [(.int p1), (.int p0), (.int (1 : Int32)), (.ref c1)])) (fun X t q => XS.iload X.here C.hx rfl (hb C.hby at_144) rfl q) ?_
  refine Wk.st (g' := (mkF m 148 #[.val (.int i0), .val (.int i1), .val (.int i2), .val (.int i3), .val (.int p0), .val (.int p1), .val (.int p2), .val (.int p3), .val (.ref b2), .val (.ref ch), .val (.int (1 : Int32))] [(.int p2), (.int p1), (.int p0), (.int (1 : Int32)), (.ref c1)])) (fun X t q => XS.iload X.here C.hx rfl (hb C.hby at_146) rfl q) ?_
  refine Wk.st (g' := (mkF m 150 #[.val (.int i0), .val (.int i1), .val (.int i2), .val (.int i3), .val (.int p0), .val (.int p1), .val (.int p2), .val (.int p3), .val (.ref b2), .val (.ref ch), .val (.int (1 : Int32))] [(.int p3), (.int p2), (.int p1), (.int p0), (.int (1 : Int32)), (.ref c1)])) (fun X t q => XS.iload X.here C.hx rfl (hb C.hby at_148) rfl q) ?_
  refine Wk.callS C (z := (⟨"com/example/understory/understory/RootedTreeChildrenOfPinLaw", "holds", "([IIIIII)Z"⟩ : MethodName)) (hw _ (List.mem_of_getElem? (i := 13) rfl)) (hw _ (List.mem_of_getElem? (i := 14) rfl)) (hw _ (List.mem_of_getElem? (i := 2) rfl)) (hw _ (List.mem_of_getElem? (i := 15) rfl)) (by decide) (own_holds l Z a0 hw n0 h43 sz51 c1 (1 : Int32) p0 p1 p2 p3 1 (by decide) F48) (w := 0) (by decide) (by decide) pd_2 rfl (rest := []) rfl rfl (Nat.le_of_eq rfl) (by decide) (by decide) at_150 ?_
  rintro _ h52 ⟨rfl, K53⟩
  show Wk _ p l e _ s m _ below meth c n0 _ h52 11 44 (mkF m 153 #[.val (.int i0), .val (.int i1), .val (.int i2), .val (.int i3), .val (.int p0), .val (.int p1), .val (.int p2), .val (.int p3), .val (.ref b2), .val (.ref ch), .val (.int (1 : Int32))] [(.int (1 : Int32))])
  have F54 : Fa Z h52 b2 .int 4 (up (up (up (up (fun _ => (.int (0 : Int32))) 0 (.int p0)) 1 (.int p1)) 2 (.int p2)) 3 (.int p3)) := F45.keep K53 nm0
  have F55 : FaA Z h52 ch .int "[I" 4 (up (up (up (up (fun _ => .null) 0 (.ref c0)) 1 (.ref c1)) 2 (.ref c2)) 3 (.ref c3)) := F46.keep K53 nm0
  have F56 : Fa Z h52 c0 .int (cn [p3, p2, p1, p0] 0).toNatClampNeg (fun t => (.int (gk [p3, p2, p1, p0] 0 t))) := F47.keep K53 nm0
  have F57 : Fa Z h52 c1 .int (cn [p3, p2, p1, p0] 1).toNatClampNeg (fun t => (.int (gk [p3, p2, p1, p0] 1 t))) := F48.keep K53 nm0
  have F58 : Fa Z h52 c2 .int (cn [p3, p2, p1, p0] 2).toNatClampNeg (fun t => (.int (gk [p3, p2, p1, p0] 2 t))) := F49.keep K53 nm0
  have F59 : Fa Z h52 c3 .int (cn [p3, p2, p1, p0] 3).toNatClampNeg (fun t => (.int (gk [p3, p2, p1, p0] 3 t))) := F50.keep K53 nm0
  have sz60 : n0 ≤ h52.size := Nat.le_trans sz51 K53.1
  refine Wk.st (g' := (mkF m 156 #[.val (.int i0), .val (.int i1), .val (.int i2), .val (.int i3), .val (.int p0), .val (.int p1), .val (.int p2), .val (.int p3), .val (.ref b2), .val (.ref ch), .val (.int (1 : Int32))] [])) (fun X t q => XS.ifNo X.here C.hx rfl (hb C.hby at_153) rfl (XT.i0_eq_f (by decide)) q) ?_
  refine Wk.st (g' := (mkF m 158 #[.val (.int i0), .val (.int i1), .val (.int i2), .val (.int i3), .val (.int p0), .val (.int p1), .val (.int p2), .val (.int p3), .val (.ref b2), .val (.ref ch), .val (.int (1 : Int32))] [(.ref ch)])) (fun X t q => XS.aload X.here C.hx rfl (hb C.hby at_156) rfl rfl q) ?_
  refine Wk.st (g' := (mkF m 159 #[.val (.int i0), .val (.int i1), .val (.int i2), .val (.int i3), .val (.int p0), .val (.int p1), .val (.int p2), .val (.int p3), .val (.ref b2), .val (.ref ch), .val (.int (1 : Int32))] [(.int (2 : Int32)), (.ref ch)])) (fun X t q => XS.iconst X.here C.hx rfl (hb C.hby at_158) q) ?_
  refine Wk.fLdA C F55 (i := 2) (by decide) (by decide) (by decide) (v := (.ref c2)) (by simp [up]) at_159 ?_
  show Wk _ p l e _ s m _ below meth c n0 _ h52 11 44 (mkF m 160 #[.val (.int i0), .val (.int i1), .val (.int i2), .val (.int i3), .val (.int p0), .val (.int p1), .val (.int p2), .val (.int p3), .val (.ref b2), .val (.ref ch), .val (.int (1 : Int32))] [(.ref c2)])
  refine Wk.st (g' := (mkF m 161 #[.val (.int i0), .val (.int i1), .val (.int i2), .val (.int i3), .val (.int p0), .val (.int p1), .val (.int p2), .val (.int p3), .val (.ref b2), .val (.ref ch), .val (.int (1 : Int32))] [(.int (2 : Int32)), (.ref c2)])) (fun X t q => XS.iconst X.here C.hx rfl (hb C.hby at_160) q) ?_
  refine Wk.st (g' := (mkF m 163 #[.val (.int i0), .val (.int i1), .val (.int i2), .val (.int i3), .val (.int p0), .val (.int p1), .val (.int p2), .val (.int p3), .val (.ref b2), .val (.ref ch), .val (.int (1 : Int32))] [(.int p0), (.int (2 : Int32)), (.ref c2)])) (fun X t q => XS.iload X.here C.hx rfl (hb C.hby at_161) rfl q) ?_
  refine Wk.st (g' := (mkF m 165 #[.val (.int i0), .val (.int i1), .val (.int i2), .val (.int i3), .val (.int p0), .val (.int p1), .val (.int p2), .val (.int p3), .val (.ref b2), .val (.ref ch), .val (.int (1 : Int32))] [(.int p1), (.int p0), (.int (2 : Int32)), (.ref c2)])) (fun X t q => XS.iload X.here C.hx rfl (hb C.hby at_163) rfl q) ?_
  refine Wk.st (g' := (mkF m 167 #[.val (.int i0), .val (.int i1), .val (.int i2), .val (.int i3), .val (.int p0), .val (.int p1), .val (.int p2), .val (.int p3), .val (.ref b2), .val (.ref ch), .val (.int (1 : Int32))] [(.int p2), (.int p1), (.int p0), (.int (2 : Int32)), (.ref c2)])) (fun X t q => XS.iload X.here C.hx rfl (hb C.hby at_165) rfl q) ?_
  refine Wk.st (g' := (mkF m 169 #[.val (.int i0), .val (.int i1), .val (.int i2), .val (.int i3), .val (.int p0), .val (.int p1), .val (.int p2), .val (.int p3), .val (.ref b2), .val (.ref ch), .val (.int (1 : Int32))] [(.int p3), (.int p2), (.int p1), (.int p0), (.int (2 : Int32)), (.ref c2)])) (fun X t q => XS.iload X.here C.hx rfl (hb C.hby at_167) rfl q) ?_
  refine Wk.callS C (z := (⟨"com/example/understory/understory/RootedTreeChildrenOfPinLaw", "holds", "([IIIIII)Z"⟩ : MethodName)) (hw _ (List.mem_of_getElem? (i := 13) rfl)) (hw _ (List.mem_of_getElem? (i := 14) rfl)) (hw _ (List.mem_of_getElem? (i := 2) rfl)) (hw _ (List.mem_of_getElem? (i := 15) rfl)) (by decide) (own_holds l Z a0 hw n0 h52 sz60 c2 (2 : Int32) p0 p1 p2 p3 2 (by decide) F58) (w := 0) (by decide) (by decide) pd_2 rfl (rest := []) rfl rfl (Nat.le_of_eq rfl) (by decide) (by decide) at_169 ?_
  rintro _ h61 ⟨rfl, K62⟩
  show Wk _ p l e _ s m _ below meth c n0 _ h61 12 48 (mkF m 172 #[.val (.int i0), .val (.int i1), .val (.int i2), .val (.int i3), .val (.int p0), .val (.int p1), .val (.int p2), .val (.int p3), .val (.ref b2), .val (.ref ch), .val (.int (1 : Int32))] [(.int (1 : Int32))])
  have F63 : Fa Z h61 b2 .int 4 (up (up (up (up (fun _ => (.int (0 : Int32))) 0 (.int p0)) 1 (.int p1)) 2 (.int p2)) 3 (.int p3)) := F54.keep K62 nm0
  have F64 : FaA Z h61 ch .int "[I" 4 (up (up (up (up (fun _ => .null) 0 (.ref c0)) 1 (.ref c1)) 2 (.ref c2)) 3 (.ref c3)) := F55.keep K62 nm0
  have F65 : Fa Z h61 c0 .int (cn [p3, p2, p1, p0] 0).toNatClampNeg (fun t => (.int (gk [p3, p2, p1, p0] 0 t))) := F56.keep K62 nm0
  have F66 : Fa Z h61 c1 .int (cn [p3, p2, p1, p0] 1).toNatClampNeg (fun t => (.int (gk [p3, p2, p1, p0] 1 t))) := F57.keep K62 nm0
  have F67 : Fa Z h61 c2 .int (cn [p3, p2, p1, p0] 2).toNatClampNeg (fun t => (.int (gk [p3, p2, p1, p0] 2 t))) := F58.keep K62 nm0
  have F68 : Fa Z h61 c3 .int (cn [p3, p2, p1, p0] 3).toNatClampNeg (fun t => (.int (gk [p3, p2, p1, p0] 3 t))) := F59.keep K62 nm0
  have sz69 : n0 ≤ h61.size := Nat.le_trans sz60 K62.1
  refine Wk.st (g' := (mkF m 175 #[.val (.int i0), .val (.int i1), .val (.int i2), .val (.int i3), .val (.int p0), .val (.int p1), .val (.int p2), .val (.int p3), .val (.ref b2), .val (.ref ch), .val (.int (1 : Int32))] [])) (fun X t q => XS.ifNo X.here C.hx rfl (hb C.hby at_172) rfl (XT.i0_eq_f (by decide)) q) ?_
  refine Wk.st (g' := (mkF m 177 #[.val (.int i0), .val (.int i1), .val (.int i2), .val (.int i3), .val (.int p0), .val (.int p1), .val (.int p2), .val (.int p3), .val (.ref b2), .val (.ref ch), .val (.int (1 : Int32))] [(.ref ch)])) (fun X t q => XS.aload X.here C.hx rfl (hb C.hby at_175) rfl rfl q) ?_
  refine Wk.st (g' := (mkF m 178 #[.val (.int i0), .val (.int i1), .val (.int i2), .val (.int i3), .val (.int p0), .val (.int p1), .val (.int p2), .val (.int p3), .val (.ref b2), .val (.ref ch), .val (.int (1 : Int32))] [(.int (3 : Int32)), (.ref ch)])) (fun X t q => XS.iconst X.here C.hx rfl (hb C.hby at_177) q) ?_
  refine Wk.fLdA C F64 (i := 3) (by decide) (by decide) (by decide) (v := (.ref c3)) (by simp [up]) at_178 ?_
  show Wk _ p l e _ s m _ below meth c n0 _ h61 12 48 (mkF m 179 #[.val (.int i0), .val (.int i1), .val (.int i2), .val (.int i3), .val (.int p0), .val (.int p1), .val (.int p2), .val (.int p3), .val (.ref b2), .val (.ref ch), .val (.int (1 : Int32))] [(.ref c3)])
  refine Wk.st (g' := (mkF m 180 #[.val (.int i0), .val (.int i1), .val (.int i2), .val (.int i3), .val (.int p0), .val (.int p1), .val (.int p2), .val (.int p3), .val (.ref b2), .val (.ref ch), .val (.int (1 : Int32))] [(.int (3 : Int32)), (.ref c3)])) (fun X t q => XS.iconst X.here C.hx rfl (hb C.hby at_179) q) ?_
  refine Wk.st (g' := (mkF m 182 #[.val (.int i0), .val (.int i1), .val (.int i2), .val (.int i3), .val (.int p0), .val (.int p1), .val (.int p2), .val (.int p3), .val (.ref b2), .val (.ref ch), .val (.int (1 : Int32))] [(.int p0), (.int (3 : Int32)), (.ref c3)])) (fun X t q => XS.iload X.here C.hx rfl (hb C.hby at_180) rfl q) ?_
  refine Wk.st (g' := (mkF m 184 #[.val (.int i0), .val (.int i1), .val (.int i2), .val (.int i3), .val (.int p0), .val (.int p1), .val (.int p2), .val (.int p3), .val (.ref b2), .val (.ref ch), .val (.int (1 : Int32))] [(.int p1), (.int p0), (.int (3 : Int32)), (.ref c3)])) (fun X t q => XS.iload X.here C.hx rfl (hb C.hby at_182) rfl q) ?_
  refine Wk.st (g' := (mkF m 186 #[.val (.int i0), .val (.int i1), .val (.int i2), .val (.int i3), .val (.int p0), .val (.int p1), .val (.int p2), .val (.int p3), .val (.ref b2), .val (.ref ch), .val (.int (1 : Int32))] [(.int p2), (.int p1), (.int p0), (.int (3 : Int32)), (.ref c3)])) (fun X t q => XS.iload X.here C.hx rfl (hb C.hby at_184) rfl q) ?_
  refine Wk.st (g' := (mkF m 188 #[.val (.int i0), .val (.int i1), .val (.int i2), .val (.int i3), .val (.int p0), .val (.int p1), .val (.int p2), .val (.int p3), .val (.ref b2), .val (.ref ch), .val (.int (1 : Int32))] [(.int p3), (.int p2), (.int p1), (.int p0), (.int (3 : Int32)), (.ref c3)])) (fun X t q => XS.iload X.here C.hx rfl (hb C.hby at_186) rfl q) ?_
  refine Wk.callS C (z := (⟨"com/example/understory/understory/RootedTreeChildrenOfPinLaw", "holds", "([IIIIII)Z"⟩ : MethodName)) (hw _ (List.mem_of_getElem? (i := 13) rfl)) (hw _ (List.mem_of_getElem? (i := 14) rfl)) (hw _ (List.mem_of_getElem? (i := 2) rfl)) (hw _ (List.mem_of_getElem? (i := 15) rfl)) (by decide) (own_holds l Z a0 hw n0 h61 sz69 c3 (3 : Int32) p0 p1 p2 p3 3 (by decide) F68) (w := 0) (by decide) (by decide) pd_2 rfl (rest := []) rfl rfl (Nat.le_of_eq rfl) (by decide) (by decide) at_188 ?_
  rintro _ h70 ⟨rfl, K71⟩
  show Wk _ p l e _ s m _ below meth c n0 _ h70 13 52 (mkF m 191 #[.val (.int i0), .val (.int i1), .val (.int i2), .val (.int i3), .val (.int p0), .val (.int p1), .val (.int p2), .val (.int p3), .val (.ref b2), .val (.ref ch), .val (.int (1 : Int32))] [(.int (1 : Int32))])
  have F72 : Fa Z h70 b2 .int 4 (up (up (up (up (fun _ => (.int (0 : Int32))) 0 (.int p0)) 1 (.int p1)) 2 (.int p2)) 3 (.int p3)) := F63.keep K71 nm0
  have F73 : FaA Z h70 ch .int "[I" 4 (up (up (up (up (fun _ => .null) 0 (.ref c0)) 1 (.ref c1)) 2 (.ref c2)) 3 (.ref c3)) := F64.keep K71 nm0
  have F74 : Fa Z h70 c0 .int (cn [p3, p2, p1, p0] 0).toNatClampNeg (fun t => (.int (gk [p3, p2, p1, p0] 0 t))) := F65.keep K71 nm0
  have F75 : Fa Z h70 c1 .int (cn [p3, p2, p1, p0] 1).toNatClampNeg (fun t => (.int (gk [p3, p2, p1, p0] 1 t))) := F66.keep K71 nm0
  have F76 : Fa Z h70 c2 .int (cn [p3, p2, p1, p0] 2).toNatClampNeg (fun t => (.int (gk [p3, p2, p1, p0] 2 t))) := F67.keep K71 nm0
  have F77 : Fa Z h70 c3 .int (cn [p3, p2, p1, p0] 3).toNatClampNeg (fun t => (.int (gk [p3, p2, p1, p0] 3 t))) := F68.keep K71 nm0
  have sz78 : n0 ≤ h70.size := Nat.le_trans sz69 K71.1
  refine Wk.st (g' := (mkF m 194 #[.val (.int i0), .val (.int i1), .val (.int i2), .val (.int i3), .val (.int p0), .val (.int p1), .val (.int p2), .val (.int p3), .val (.ref b2), .val (.ref ch), .val (.int (1 : Int32))] [])) (fun X t q => XS.ifNo X.here C.hx rfl (hb C.hby at_191) rfl (XT.i0_eq_f (by decide)) q) ?_
  refine Wk.st (g' := (mkF m 195 #[.val (.int i0), .val (.int i1), .val (.int i2), .val (.int i3), .val (.int p0), .val (.int p1), .val (.int p2), .val (.int p3), .val (.ref b2), .val (.ref ch), .val (.int (1 : Int32))] [(.int (1 : Int32))])) (fun X t q => XS.iconst X.here C.hx rfl (hb C.hby at_194) q) ?_
  refine Wk.st (g' := (mkF m 199 #[.val (.int i0), .val (.int i1), .val (.int i2), .val (.int i3), .val (.int p0), .val (.int p1), .val (.int p2), .val (.int p3), .val (.ref b2), .val (.ref ch), .val (.int (1 : Int32))] [(.int (1 : Int32))])) (fun X t q => XS.goto X.here C.hx rfl (pc0 := 195) (pc' := 199) rfl (hb C.hby at_195) (by decide) (by decide) q) ?_
  exact Wk.retV C (t := .boolean) rfl rfl (Or.inl ⟨rfl, by simp, _, rfl⟩) at_199 (by decide) (by decide) ⟨rfl, trivial⟩
set_option maxRecDepth 65536 in
set_option maxHeartbeats 40000000 in
theorem comes_1 {Post : Tables → Env → Array Value → State → Outcome → State → Prop} (hpost : ∀ tb e args s v u, (limb_1_1.after args s (.returned v) u = true ∧ limb_1_2.after args s (.returned v) u = true ∧ True) → FrameEnd s (.returned v) u (Jvm.fieldLocs frame_1_writes args s ++ Jvm.arrayLocs frame_1_arrays args s ++ Jvm.staticLocs frame_1_statics s) 32 192 → Post tb e args s (.returned v) u) :
    ArmFor flags0 classFile x code maxLocals ret World_1 tables_1 room_1 Calls_1 rest_1 Pre_1 Post := by
  intro l hfl _ _ p e ha hc hk s m args below hf hA hF happ hP
  obtain ⟨hcalls, hrest, hpre⟩ := hP
  obtain ⟨-, -, -, hnamed, -, -, -, hat⟩ := (Spec.applies_iff hf).mp happ
  obtain ⟨hg, hn⟩ := and_e (Cond.before_iff.mp (show (Jvm.Cond.and given_1 narrow_1).before args s = true from hpre))
  obtain ⟨hcount, g0⟩ := and_e hg
  obtain ⟨v0, v1, v2, v3, rfl⟩ : ∃ v0 v1 v2 v3 : Value, args = #[v0, v1, v2, v3] := by
    have hs : args.size = 4 := by simpa [Cond.value, given_1] using hcount
    obtain ⟨L⟩ := args
    match L, hs with
    | [v0, v1, v2, v3], _ => exact ⟨v0, v1, v2, v3, rfl⟩
  have hw := fun d (hd : d ∈ tables_1) => atoms_spec (ws := Jvm.Cond.code x code maxLocals ret :: tables_1) hat d (List.mem_cons_of_mem _ hd)
  have hfit : Fit s := fun {y c} hc i hi => by
    obtain ⟨ha, rfl⟩ := Array.getElem?_eq_some_iff.mp hc
    have q := List.all_eq_true.mp ((Array.all_eq_true_iff_forall_mem.mp hF) _ (Array.getElem_mem ha)) i (List.mem_range.mpr hi)
    simpa [Array.getElem?_eq_getElem hi] using q
  obtain ⟨e0, g1⟩ := and_e g0
  obtain ⟨i0, f0⟩ := is_v e0
  obtain rfl : v0 = (.int i0) := Option.some.inj f0
  obtain ⟨e1, g2⟩ := and_e g1
  obtain ⟨i1, f1⟩ := is_v e1
  obtain rfl : v1 = (.int i1) := Option.some.inj f1
  obtain ⟨e2, g3⟩ := and_e g2
  obtain ⟨i2, f2⟩ := is_v e2
  obtain rfl : v2 = (.int i2) := Option.some.inj f2
  obtain ⟨i3, f3⟩ := is_v g3
  obtain rfl : v3 = (.int i3) := Option.some.inj f3
  obtain ⟨n, o, h1, h2, h3, _, L, rfl, ⟨⟨rfl, -⟩, N⟩, hq⟩ := law_met l s _ hw s.heap.size s.heap (Nat.le_refl _) i0 i1 i2 i3 tables_1 p e ha hc hk s m _ below hf ((Spec.applies_iff_loose hf).mp happ).1 ⟨rfl, State.Warmed39.refl s, rfl⟩ trivial
  refine ⟨n, _, h1, h2, h3, hpost _ _ _ _ _ _ ⟨Cond.after_iff.mpr rfl, Cond.after_iff.mpr (eq_i res_at (Term.int_eval (1)) rfl), trivial⟩ ⟨hq.1, hq.2.1, (hq.2.2.sift fun y hy => Or.inr (N y hy)).mono (by decide) (by decide)⟩⟩
theorem main_1_1 : Claimed_1_1 := comes_1 fun _ _ _ _ _ _ h hF => ⟨h.1, hF⟩
theorem main_1_2 : Claimed_1_2 := comes_1 fun _ _ _ _ _ _ h hF => ⟨h.2.1, hF⟩
end Jvm.Pilot.@@N@@
namespace Jvm.Pilot.@@N@@
open Jvm Jvm.ClassFile Sem Op Lib Jvm.Free Jvm.Stand Jvm.Pilot.@@N@@.Jvm.D
/-! MADE BY PROGRAM (witnessworld.py) out of the Statement's table words and the real class files: 9 classes; the members and pool entries that the words name. The judged class is class 1, her method 1. -/
namespace start1
open Jvm.ClassFile
def u (s : String) : CpInfo := .utf8 (stringToUtf16 s)
/-- a pool by its gaps: so many unusable entries, then the entry; so many at the end -/
def gap : Nat → List CpInfo → List CpInfo
  | 0, r => r
  | n + 1, r => .unusable :: gap n r
def poolList (es : List (Nat × CpInfo)) (last : Nat) : List CpInfo := es.foldr (fun e r => gap e.1 (e.2 :: r)) (gap last [])
def pool (es : List (Nat × CpInfo)) (last : Nat) : Array CpInfo := ⟨poolList es last⟩
def fileOf (pool : Array CpInfo) (this : Nat) (attrs : Array Attribute := #[]) (ms : Array MethodInfo := #[]) (fl : Nat := 33) (sup : Nat := 0) (ifs : Array Nat := #[]) (fds : Array FieldInfo := #[]) : ClassFile where
  minorVersion := 0
  majorVersion := 65
  constantPool := pool
  accessFlags := fl
  thisClass := this
  superClass := sup
  interfaces := ifs
  fields := fds
  methods := ms
  attributes := attrs
def plain (name : String) (sup : Option ClassId) : Class where
  name := name
  kind := .ordinary
  loader := none
  accessFlags := 33
  super := sup
  interfaces := #[]
  cf := none
  fields := #[]
  methods := #[]
  instanceTypes := #[]
  staticTypes := #[]
  resolved := #[]
  callSites := []
  init := .initialized
  statics := none
  mirror := none

def pool0 : Array CpInfo := pool [(5, u "<init>"), (0, u "()V"), (1, .class_ 10), (1, u "java/lang/Object")] 113

def k0m0 : Method := { name := "<init>", desc := "()V", sig := { parameters := [], returnType := none }, accessFlags := 1, code := none }
/-- java/lang/Object -/
def k0 : Class := { plain "java/lang/Object" none with
  accessFlags := 33
  interfaces := #[]
  cf := some (fileOf pool0 8 #[] #[{ accessFlags := 1, nameIndex := 5, descriptorIndex := 6, attributes := #[] }] 33 0 #[] #[])
  fields := #[]
  methods := #[k0m0]
  instanceTypes := #[]
  staticTypes := #[]
  resolved := Array.replicate 124 none
  statics := none }

def pool1 : Array CpInfo := pool [(2, .class_ 4), (1, u "java/lang/Object"), (0, u "<init>"), (0, u "()V"), (0, .methodref 8 9), (0, .class_ 10), (0, .nameAndType 11 12), (0, u "com/example/understory/understory/RootedTreeChildrenOfPinLaw"), (0, u "draw"), (0, u "(I)I"), (0, .methodref 14 15), (0, .class_ 16), (0, .nameAndType 17 18), (0, u "com/example/understory/understory/RootedTree"), (0, u "childrenOf"), (0, u "([I)[[I"), (0, .methodref 8 20), (0, .nameAndType 21 22), (0, u "holds"), (0, u "([IIIIII)Z"), (0, .integer 2147483647), (2, u "law"), (0, u "(IIII)Z")] 7

def k1m0 : Method := { name := "<init>", desc := "()V", sig := { parameters := [], returnType := none }, accessFlags := 1, code := none }
def k1c1 : Code := { maxStack := 6, maxLocals := 11, code := code, exceptionTable := #[], attributes := #[] }
def k1m1 : Method := { name := "law", desc := "(IIII)Z", sig := { parameters := [.int, .int, .int, .int], returnType := some .boolean }, accessFlags := 9, code := some k1c1 }
def k1c2 : Code := { maxStack := 2, maxLocals := 1, code := method_3_code, exceptionTable := #[], attributes := #[] }
def k1m2 : Method := { name := "draw", desc := "(I)I", sig := { parameters := [.int], returnType := some .int }, accessFlags := 10, code := some k1c2 }
def k1c3 : Code := { maxStack := 3, maxLocals := 8, code := method_4_code, exceptionTable := #[], attributes := #[] }
def k1m3 : Method := { name := "holds", desc := "([IIIIII)Z", sig := { parameters := [(.array .int), .int, .int, .int, .int, .int], returnType := some .boolean }, accessFlags := 10, code := some k1c3 }
/-- com/example/understory/understory/RootedTreeChildrenOfPinLaw -/
def k1 : Class := { plain "com/example/understory/understory/RootedTreeChildrenOfPinLaw" (some 0) with
  accessFlags := 49
  interfaces := #[]
  cf := some (fileOf pool1 8 #[] #[{ accessFlags := 1, nameIndex := 5, descriptorIndex := 6, attributes := #[] }, { accessFlags := 9, nameIndex := 26, descriptorIndex := 27, attributes := #[] }, { accessFlags := 10, nameIndex := 11, descriptorIndex := 12, attributes := #[] }, { accessFlags := 10, nameIndex := 21, descriptorIndex := 22, attributes := #[] }] 49 2 #[] #[])
  fields := #[]
  methods := #[k1m0, k1m1, k1m2, k1m3]
  instanceTypes := #[]
  staticTypes := #[]
  resolved := Array.replicate 35 none
  statics := none }

def pool2 : Array CpInfo := pool [(2, .class_ 4), (1, u "java/lang/Object"), (3, .class_ 10), (1, u "com/example/understory/understory/RootedTree"), (0, u "parent"), (0, u "[I"), (2, u "states"), (2, u "column"), (2, u "childrenOf"), (0, u "([I)[[I"), (2, u "children"), (0, u "[[I"), (2, u "nodeOfColumn"), (0, .class_ 12)] 24

def k2c0 : Code := { maxStack := 6, maxLocals := 6, code := prog_21_method_2_code, exceptionTable := #[], attributes := #[] }
def k2m0 : Method := { name := "childrenOf", desc := "([I)[[I", sig := { parameters := [(.array .int)], returnType := some (.array (.array .int)) }, accessFlags := 8, code := some k2c0 }
/-- com/example/understory/understory/RootedTree -/
def k2 : Class := { plain "com/example/understory/understory/RootedTree" (some 0) with
  accessFlags := 48
  interfaces := #[]
  cf := some (fileOf pool2 8 #[] #[{ accessFlags := 8, nameIndex := 21, descriptorIndex := 22, attributes := #[] }] 48 2 #[] #[{ accessFlags := 18, nameIndex := 11, descriptorIndex := 12, attributes := #[] }, { accessFlags := 18, nameIndex := 15, descriptorIndex := 12, attributes := #[] }, { accessFlags := 18, nameIndex := 18, descriptorIndex := 12, attributes := #[] }, { accessFlags := 18, nameIndex := 25, descriptorIndex := 26, attributes := #[] }, { accessFlags := 18, nameIndex := 29, descriptorIndex := 12, attributes := #[] }])
  fields := #[{ name := "parent", type := (.array .int), accessFlags := 18, slot := 0, constantValue := 0 }, { name := "states", type := (.array .int), accessFlags := 18, slot := 1, constantValue := 0 }, { name := "column", type := (.array .int), accessFlags := 18, slot := 2, constantValue := 0 }, { name := "children", type := (.array (.array .int)), accessFlags := 18, slot := 3, constantValue := 0 }, { name := "nodeOfColumn", type := (.array .int), accessFlags := 18, slot := 4, constantValue := 0 }]
  methods := #[k2m0]
  instanceTypes := #[(.array .int), (.array .int), (.array .int), (.array (.array .int)), (.array .int)]
  staticTypes := #[]
  resolved := Array.replicate 55 none
  statics := none }

def pool3 : Array CpInfo := pool [(1, u "java/lang/Cloneable"), (0, .class_ 1), (0, u "java/lang/Object"), (0, .class_ 3)] 3

/-- java/lang/Cloneable -/
def k3 : Class := { plain "java/lang/Cloneable" (some 0) with
  accessFlags := 1537
  interfaces := #[]
  cf := some (fileOf pool3 2 #[] #[] 1537 4 #[] #[])
  fields := #[]
  methods := #[]
  instanceTypes := #[]
  staticTypes := #[]
  resolved := Array.replicate 8 none
  statics := none }

def pool4 : Array CpInfo := pool [(1, u "java/io/Serializable"), (0, .class_ 1), (0, u "java/lang/Object"), (0, .class_ 3)] 3

/-- java/io/Serializable -/
def k4 : Class := { plain "java/io/Serializable" (some 0) with
  accessFlags := 1537
  interfaces := #[]
  cf := some (fileOf pool4 2 #[] #[] 1537 4 #[] #[])
  fields := #[]
  methods := #[]
  instanceTypes := #[]
  staticTypes := #[]
  resolved := Array.replicate 8 none
  statics := none }

/-- the primitive byte -/
def k5 : Class := { plain "byte" none with kind := .primitive 'B', accessFlags := 0x411 }
/-- [B -/
def k6 : Class := { plain "[B" (some 0) with kind := .array 5 .byte, interfaces := #[3, 4], accessFlags := 1041 }

/-- the primitive int -/
def k7 : Class := { plain "int" none with kind := .primitive 'I', accessFlags := 0x411 }
/-- [I -/
def k8 : Class := { plain "[I" (some 0) with kind := .array 7 .int, interfaces := #[3, 4], accessFlags := 1041 }

def heap : Heap := #[]
def k9 : Class := { plain "[[I" (some 0) with kind := .array 8 (.array .int), interfaces := #[3, 4], accessFlags := 1041 }
def classes : Array Class := #[k0, k1, k2, k3, k4, k5, k6, k7, k8, k9]
def interned : List (Array UInt16 × Addr) := []
def slotsUsed : Nat := 0
def theMethod : MethodId := ⟨1, 1⟩
def args0 : Array Value := #[.int 5, .int 6, .int 7, .int 8]
def aboutOver (below : List Frame) : State where
  vm := { classes := classes, interned := interned.toArray }
  heap := heap
  slotsUsed := slotsUsed
  threads := #[{ frames := .invoking theMethod args0 :: below }]
def below0 : List Frame := [.native { method := ⟨0, 0⟩, args := #[] }]
def about1 : State := aboutOver below0
def p0 : Program := .bare "" "" ""
def e0 : Env := launch0.env 0 0 0
theorem w_frames : about1.frames = Frame.invoking theMethod args0 :: below0 := rfl
set_option maxRecDepth 65536 in
theorem w_args : argsFit about1.vm theMethod args0 = true := by decide +kernel
set_option maxRecDepth 65536 in
theorem w_heap : heapFits about1 = true := by decide +kernel
set_option maxRecDepth 65536 in
theorem w_runnable : about1.curStatus? = some .runnable := by decide +kernel
set_option maxRecDepth 65536 in
theorem w_alone : about1.alone = true := by decide +kernel
set_option maxRecDepth 65536 in
theorem w_named : about1.methodNamed? x = some theMethod := by decide +kernel
set_option maxRecDepth 65536 in
theorem w_hears : about1.hears theMethod below0 = true := by decide +kernel
set_option maxRecDepth 65536 in
theorem w_ripe : about1.ripe theMethod args0 below0 = true := by decide +kernel
theorem w_running : about1.status = .running := rfl
set_option maxRecDepth 65536 in
theorem w_room : about1.hasRoom e0.platform room_1 = true :=
  launch0.hasRoom_least _ room_1 (by decide +kernel) (by decide +kernel) (by decide +kernel) (by decide +kernel) (by decide +kernel) (by decide +kernel)
theorem allAtoms_all (ts : List Jvm.Cond) (a : Array Jvm.Value) (st : Jvm.State) : (allAtoms ts).before a st = ts.all (fun c => c.before a st) := by
  induction ts with
  | nil => rfl
  | cons c t ih =>
    show (Jvm.Cond.and c (allAtoms t)).before a st = _
    rw [Jvm.Cond.before_and, ih, List.all_cons]
def words1 : List Jvm.Cond := Jvm.Cond.code x code maxLocals ret :: tables_1
/-- a 'code' word, met by the world's own term for the bytes: nothing is compared byte by byte -/
theorem code_word {y : MethodName} {bytes : ByteArray} {mx : Nat} {rt : Option FieldType} {a : Array Value} {s : State} {m : MethodId} {meth : Method} {c : Code} (h1 : s.methodNamed? y = some m) (h2 : s.vm.method? m = some meth) (h3 : meth.code = some c) (h4 : c.code = bytes)
    (h5 : (c.maxLocals == mx && c.exceptionTable.isEmpty && decide (c.maxStack ≤ mostOperands) && decide (meth.sig.returnType = rt) && !meth.locks && decide (parseMethodDescriptor y.desc = some meth.sig)) = true) : (Jvm.Cond.code y bytes mx rt).before a s = true := by
  simp only [Bool.and_eq_true, beq_iff_eq, Bool.not_eq_true', decide_eq_true_eq] at h5
  obtain ⟨⟨⟨⟨⟨g1, g2⟩, g3⟩, g4⟩, g5⟩, g6⟩ := h5
  simp [Cond.before, Cond.holds, Cond.value, h1, h2, h3, h4, g1, g2, g3, g4, g5, g6]
def isCode : Jvm.Cond → Bool
  | .code _ _ _ _ => true
  | _ => false
theorem all_split {L : List Jvm.Cond} {P : Jvm.Cond → Bool} (h1 : L.all (fun c => isCode c || P c) = true) (h2 : ∀ c ∈ L.filter isCode, P c = true) : L.all P = true := by
  refine List.all_eq_true.mpr fun c hc => ?_
  have h := List.all_eq_true.mp h1 c hc
  rcases Bool.eq_false_or_eq_true (isCode c) with hi | hi
  · exact h2 c (List.mem_filter.mpr ⟨hc, hi⟩)
  · simpa [hi] using h
set_option maxRecDepth 65536 in
theorem w_c0 : (Jvm.Cond.code x code maxLocals ret).before args0 about1 = true := code_word (m := ⟨1, 1⟩) (meth := k1m1) (c := k1c1) (by decide +kernel) rfl rfl rfl (by decide +kernel)
set_option maxRecDepth 65536 in
theorem w_c1 : (Jvm.Cond.code ({ cls := "com/example/understory/understory/RootedTreeChildrenOfPinLaw", name := "draw", desc := "(I)I" } : Jvm.MethodName) method_3_code (1 : Nat) (Option.some Jvm.ClassFile.FieldType.int)).before args0 about1 = true := code_word (m := ⟨1, 2⟩) (meth := k1m2) (c := k1c2) (by decide +kernel) rfl rfl rfl (by decide +kernel)
set_option maxRecDepth 65536 in
theorem w_c2 : (Jvm.Cond.code ({ cls := "com/example/understory/understory/RootedTree", name := "childrenOf", desc := "([I)[[I" } : Jvm.MethodName) prog_21_method_2_code (6 : Nat) (Option.some (Jvm.ClassFile.FieldType.array (Jvm.ClassFile.FieldType.array Jvm.ClassFile.FieldType.int)))).before args0 about1 = true := code_word (m := ⟨2, 0⟩) (meth := k2m0) (c := k2c0) (by decide +kernel) rfl rfl rfl (by decide +kernel)
set_option maxRecDepth 65536 in
theorem w_c3 : (Jvm.Cond.code ({ cls := "com/example/understory/understory/RootedTreeChildrenOfPinLaw", name := "holds", desc := "([IIIIII)Z" } : Jvm.MethodName) method_4_code (8 : Nat) (Option.some Jvm.ClassFile.FieldType.boolean)).before args0 about1 = true := code_word (m := ⟨1, 3⟩) (meth := k1m3) (c := k1c3) (by decide +kernel) rfl rfl rfl (by decide +kernel)
def codes1 : List Jvm.Cond := [Jvm.Cond.code x code maxLocals ret, Jvm.Cond.code ({ cls := "com/example/understory/understory/RootedTreeChildrenOfPinLaw", name := "draw", desc := "(I)I" } : Jvm.MethodName) method_3_code (1 : Nat) (Option.some Jvm.ClassFile.FieldType.int), Jvm.Cond.code ({ cls := "com/example/understory/understory/RootedTree", name := "childrenOf", desc := "([I)[[I" } : Jvm.MethodName) prog_21_method_2_code (6 : Nat) (Option.some (Jvm.ClassFile.FieldType.array (Jvm.ClassFile.FieldType.array Jvm.ClassFile.FieldType.int))), Jvm.Cond.code ({ cls := "com/example/understory/understory/RootedTreeChildrenOfPinLaw", name := "holds", desc := "([IIIIII)Z" } : Jvm.MethodName) method_4_code (8 : Nat) (Option.some Jvm.ClassFile.FieldType.boolean)]
set_option maxRecDepth 65536 in
theorem codes_eq : words1.filter isCode = codes1 := rfl
theorem w_codes : ∀ c ∈ words1.filter isCode, c.before args0 about1 = true := by
  rw [codes_eq]
  intro c hc
  simp only [codes1, List.mem_cons, List.not_mem_nil, or_false] at hc
  rcases hc with rfl | rfl | rfl | rfl
  · exact w_c0
  · exact w_c1
  · exact w_c2
  · exact w_c3
set_option maxRecDepth 65536 in
theorem w_t1 : words1.all (fun c => isCode c || c.before args0 about1) = true := by decide +kernel
theorem w_tables : (allAtoms (Jvm.Cond.code x code maxLocals ret :: tables_1)).before args0 about1 = true := by
  rw [allAtoms_all]
  show words1.all (fun c => c.before args0 about1) = true
  refine all_split ?_ w_codes
  rw [w_t1]
set_option maxRecDepth 65536 in
theorem w_case : (Jvm.Cond.and given_1 narrow_1).before args0 about1 = true := by decide +kernel
theorem w_applies : (headSpec (Jvm.Cond.code x code maxLocals ret :: tables_1) room_1).applies x e0.platform about1 = true :=
  (Spec.applies_iff w_frames).mpr ⟨w_running, w_runnable, w_alone, w_named, w_hears, w_ripe, w_room, w_tables⟩
theorem atStart : AtStart classFile x code maxLocals ret World_1 tables_1 room_1 Calls_1 rest_1 Pre_1 launch0 p0 e0 about1 theMethod args0 below0 :=
  ⟨lists_1, trivial, launch0.admits_env _ _ _, launch0.least_env, fairChoices_fair.cas, fairChoices_fair.clock, w_frames, w_args, w_heap, w_applies, trivial, trivial, w_case⟩
end start1
theorem witness_1 : WitnessClaimed_1 := ⟨start1.p0, start1.e0, start1.about1, start1.theMethod, start1.args0, start1.below0, start1.atStart⟩
end Jvm.Pilot.@@N@@
