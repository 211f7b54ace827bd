import JvmDerived
import JvmDerived.Pilot.@@N@@Statement
import JvmDerived.Pilot.@@N@@Code
set_option linter.unusedVariables false
set_option linter.unusedSimpArgs false
namespace Jvm.Own
open Jvm Jvm.ClassFile Sem Op Lib Jvm.Free Jvm.Stand Jvm.LawKit Jvm.RoadKit
/-! MY LAYER: a goal 'Wk' over the library's Stand (from any state that stands here with the heap h, the walk comes to its end and Q holds), one rule a step; W: may the walk intern (wide frame). -/
def Bs (W : Bool) (s : State) (vm0 : Vm) (sz : Nat) : Prop := match W with
  | false => vm0 = s.vm
  | true => ∃ k0, s.Since vm0 k0 ∧ k0 ≤ sz
def En (W : Bool) (s : State) (o : Outcome) (t : State) (L : List Loc) (k n : Nat) : Prop := match W with
  | false => FrameEnd s o t L k n
  | true => ReturnedEndW s o t L k n
def Cx (Z : State) (p : Program) (s : State) (m : MethodId) (meth : Method) (c : Code) (y : MethodName) (bytes : ByteArray) (maxL : Nat) (ret : Option FieldType) : Prop :=
  p.tables.exec = Jvm.exec ∧ c.code = bytes ∧ c.maxLocals = maxL ∧ Z.Warmed39 s.vm ∧ s.vm.findClass y.cls = some m.cls ∧ meth.name = y.name ∧ meth.sig.returnType = ret ∧ meth.locks = false
def Wk (W : Bool) (p : Program) (l : Launch) (e : Env) (R : Room) (s : State) (m : MethodId) (args : Array Value) (below : List Frame) (meth : Method) (c : Code) (n0 : Nat) (Q : Option Value → Heap → Prop) (h : Heap) (k n : Nat) (g : JFrame) : Prop :=
  ∀ T L vm0, Stand p l e R (s.setVm vm0) m args below meth c T L k n → Bs W s vm0 h.size → T.heap = h → Fr n0 L →
    ∃ s₂ o, Steps p.tables e below (T.setTop g) s₂ ∧ s₂.status = .running ∧ Ended s₂ below o ∧ ∃ v L, o = .returned v ∧ (Q v s₂.heap ∧ Fr n0 L) ∧ En W s o s₂ L R.cells R.slots
def Met (W : Bool) (l : Launch) (Z : State) (n0 : Nat) (y : MethodName) (bytes : ByteArray) (maxL : Nat) (ret : Option FieldType) (rm : Room) (as : Array Value) (h : Heap) (Q : Option Value → Heap → Prop) : Prop :=
  ∀ ws, MetFree l y (head1 (Cond.code y bytes maxL ret :: ws) rm) (fun a U => a = as ∧ Z.Warmed39 U.vm ∧ U.heap = h) (fun _ _ _ _ _ => True)
    (fun _ U o U' => ∃ v L, o = .returned v ∧ (Q v U'.heap ∧ Fr n0 L) ∧ En W U o U' L rm.cells rm.slots)
theorem Bs.start (W : Bool) (s : State) (sz : Nat) : Bs W s s.vm sz := by
  cases W
  · rfl
  · exact ⟨0, (State.WarmedH.refl s).since 0, Nat.zero_le _⟩
theorem Bs.mono {W : Bool} {s : State} {vm0 : Vm} {a b : Nat} (B : Bs W s vm0 a) (q : a ≤ b) : Bs W s vm0 b := by
  cases W
  · exact B
  · obtain ⟨k0, h1, h2⟩ := B; exact ⟨k0, h1, Nat.le_trans h2 q⟩
theorem Bs.warm {W : Bool} {s : State} {vm0 : Vm} {a : Nat} (B : Bs W s vm0 a) : s.Warmed39 vm0 := by
  cases W
  · cases (B : vm0 = s.vm); exact State.Warmed39.refl s
  · obtain ⟨k0, h1, h2⟩ := B; exact h1.1
section Cxs
variable {W : Bool} {Z : State} {p : Program} {s : State} {m : MethodId} {meth : Method} {c : Code} {y : MethodName} {bytes : ByteArray} {maxL : Nat} {ret : Option FieldType}
theorem Cx.hx (C : Cx Z p s m meth c y bytes maxL ret) : p.tables.exec = Jvm.exec := C.1
theorem Cx.hby (C : Cx Z p s m meth c y bytes maxL ret) : c.code = bytes := C.2.1
theorem Cx.hml (C : Cx Z p s m meth c y bytes maxL ret) : c.maxLocals = maxL := C.2.2.1
theorem Cx.hZ (C : Cx Z p s m meth c y bytes maxL ret) : Z.Warmed39 s.vm := C.2.2.2.1
theorem Cx.hown (C : Cx Z p s m meth c y bytes maxL ret) : s.vm.findClass y.cls = some m.cls := C.2.2.2.2.1
theorem Cx.hnm (C : Cx Z p s m meth c y bytes maxL ret) : meth.name = y.name := C.2.2.2.2.2.1
theorem Cx.hret (C : Cx Z p s m meth c y bytes maxL ret) : meth.sig.returnType = ret := C.2.2.2.2.2.2.1
theorem Cx.hlk (C : Cx Z p s m meth c y bytes maxL ret) : meth.locks = false := C.2.2.2.2.2.2.2
theorem Cx.wZ (C : Cx Z p s m meth c y bytes maxL ret) {vm0 : Vm} {a : Nat} (B : Bs W s vm0 a) : Z.Warmed39 (s.setVm vm0).vm := State.Warmed39.trans (t := s) C.hZ B.warm
theorem Cx.wo (C : Cx Z p s m meth c y bytes maxL ret) {vm0 : Vm} {a : Nat} (B : Bs W s vm0 a) : (s.setVm vm0).vm.findClass y.cls = some m.cls := by
  show vm0.findClass y.cls = _
  rw [B.warm.alike.findClass]; exact C.hown
end Cxs
theorem Met.of {W : Bool} {l : Launch} {Z : State} {n0 : Nat} {y : MethodName} {bytes : ByteArray} {maxL : Nat} {ret : Option FieldType} {rm : Room} {as : Array Value} {h : Heap} {Q : Option Value → Heap → Prop}
    (hpn : plainName y.cls = true) (Ls : Array Slot) (hef : ∀ m, entryFrame m as maxL = mkF m 0 Ls [])
    (H : ∀ p e s m below meth c, Cx Z p s m meth c y bytes maxL ret → Wk W p l e rm s m as below meth c n0 Q h 0 0 (mkF m 0 Ls [])) : Met W l Z n0 y bytes maxL ret rm as h Q := by
  intro ws
  refine MetFree.of_bodySF (plainFor_of_name hpn) hisR ?_
  intro p e s m args below meth c s₁ Bd hml0 hP hK
  obtain ⟨ha, hZ, hh⟩ := hP
  have hown := findClass_of_methodNamed Bd.named
  have hnm := (name_of_methodNamed Bd.named Bd.method).1
  have e0 : s₁.heap = h := by rw [← hh, Bd.state]; rfl
  have X0 : Stand p l e rm s m args below meth c s₁ [] 0 0 := Stand.of_body Bd
  rw [ha] at X0 ⊢
  obtain ⟨s₂, o, h1, h2⟩ := H p e s m below meth c ⟨Bd.exec, Bd.bytes, hml0, hZ, hown, hnm, Bd.returns, Bd.notSynchronized⟩ s₁ [] s.vm X0 (Bs.start W s _) e0 (Fr.nil n0)
  exact ⟨s₂, o, castTop (hef m) h1, h2⟩
section Rules
variable {W : Bool} {Z : State} {p : Program} {l : Launch} {e : Env} {R : Room} {s : State} {m : MethodId} {args : Array Value} {below : List Frame} {meth : Method} {c : Code} {y : MethodName} {bytes : ByteArray} {maxL : Nat} {ret : Option FieldType} {n0 : Nat} {Q : Option Value → Heap → Prop} {h : Heap} {k n : Nat} {g g' : JFrame} {a0 : Array Value}
theorem Wk.more {k' n' : Nat} (q1 : k ≤ k') (q2 : n ≤ n') (H : Wk W p l e R s m args below meth c n0 Q h k' n' g) : Wk W p l e R s m args below meth c n0 Q h k n g :=
  fun T L vm0 X B eT N => H T L vm0 (X.more q1 q2) B eT N
theorem Wk.st (f : ∀ {T : State} {L : List Loc} {vm0 : Vm}, Stand p l e R (s.setVm vm0) m args below meth c T L k n → ∀ t, Steps p.tables e below (T.setTop g') t → Steps p.tables e below (T.setTop g) t)
    (H : Wk W p l e R s m args below meth c n0 Q h k n g') : Wk W p l e R s m args below meth c n0 Q h k n g := by
  intro T L vm0 X B eT N
  obtain ⟨s₂, o, h1, h2⟩ := H T L vm0 X B eT N
  exact ⟨s₂, o, f X _ h1, h2⟩
/-- a step that needs the tables (as they stand at vm0) and the heap, and leaves the heap -/
theorem Wk.stZ (C : Cx Z p s m meth c y bytes maxL ret) (f : ∀ {T : State} {L : List Loc} {vm0 : Vm}, Stand p l e R (s.setVm vm0) m args below meth c T L k n → Z.Warmed39 (s.setVm vm0).vm → (s.setVm vm0).vm.findClass y.cls = some m.cls → T.heap = h → ∃ T', Stand p l e R (s.setVm vm0) m args below meth c T' L k n ∧ T'.heap = h ∧ ∀ t, Steps p.tables e below (T'.setTop g') t → Steps p.tables e below (T.setTop g) t)
    (H : Wk W p l e R s m args below meth c n0 Q h k n g') : Wk W p l e R s m args below meth c n0 Q h k n g := by
  intro T L vm0 X B eT N
  obtain ⟨T', X', e', st⟩ := f X (C.wZ B) (C.wo B) eT
  obtain ⟨s₂, o, h1, h2⟩ := H T' L vm0 X' B e' N
  exact ⟨s₂, o, st _ h1, h2⟩
/-- a step that writes one place of a new cell -/
theorem Wk.stW (C : Cx Z p s m meth c y bytes maxL ret) {a : Addr} {sl : Nat} {v : Value} (ge : n0 ≤ a) (f : ∀ {T : State} {L : List Loc} {vm0 : Vm}, Stand p l e R (s.setVm vm0) m args below meth c T L k n → Z.Warmed39 (s.setVm vm0).vm → (s.setVm vm0).vm.findClass y.cls = some m.cls → T.heap = h → ∃ T' h', Stand p l e R (s.setVm vm0) m args below meth c T' (L ++ [⟨a, sl⟩]) k n ∧ T'.heap = h' ∧ Wr h h' a sl v ∧ ∀ t, Steps p.tables e below (T'.setTop g') t → Steps p.tables e below (T.setTop g) t)
    (H : ∀ h', Wr h h' a sl v → Wk W p l e R s m args below meth c n0 Q h' k n g') : Wk W p l e R s m args below meth c n0 Q h k n g := by
  intro T L vm0 X B eT N
  obtain ⟨T', h', X', e', Wh, st⟩ := f X (C.wZ B) (C.wo B) eT
  obtain ⟨s₂, o, h1, h2⟩ := H h' Wh T' _ vm0 X' (B.mono (Nat.le_of_eq Wh.size.symm)) e' (Fr.snoc X' N ge)
  exact ⟨s₂, o, st _ h1, h2⟩
theorem Wk.ldcI (C : Cx Z p s m meth c y bytes maxL ret) {index : Nat} {v : Int32} (w : (Cond.constant y.cls index v).before a0 Z = true) {pc : Nat} {Ls : Array Slot} {st : List Value} (hd : decode bytes pc = .ok (.ldc index, 2))
    (H : Wk W p l e R s m args below meth c n0 Q h k n (mkF m (pc + 2) Ls (.int v :: st))) : Wk W p l e R s m args below meth c n0 Q h k n (mkF m pc Ls st) :=
  Wk.stZ C (fun X hZ ho eT => ⟨_, X, eT, fun t q => X.ldcI C.hx ho (mvT hZ w) rfl (hb C.hby hd) q⟩) H
theorem Wk.ldc2J (C : Cx Z p s m meth c y bytes maxL ret) {index : Nat} {v : Int64} (w : (Cond.constantLong y.cls index v).before a0 Z = true) {pc : Nat} {Ls : Array Slot} {st : List Value} (hd : decode bytes pc = .ok (.ldc2_w index, 3))
    (H : Wk W p l e R s m args below meth c n0 Q h k n (mkF m (pc + 3) Ls (.long v :: st))) : Wk W p l e R s m args below meth c n0 Q h k n (mkF m pc Ls st) :=
  Wk.stZ C (fun X hZ ho eT => ⟨_, X, eT, fun t q => X.ldc2J C.hx ho (mvT hZ w) rfl (hb C.hby hd) q⟩) H
theorem Wk.ldcF (C : Cx Z p s m meth c y bytes maxL ret) {index : Nat} {v : UInt32} (w : (Cond.constantFloat y.cls index v).before a0 Z = true) {pc : Nat} {Ls : Array Slot} {st : List Value} (hd : decode bytes pc = .ok (.ldc index, 2))
    (H : Wk W p l e R s m args below meth c n0 Q h k n (mkF m (pc + 2) Ls (.float v :: st))) : Wk W p l e R s m args below meth c n0 Q h k n (mkF m pc Ls st) :=
  Wk.stZ C (fun X hZ ho eT => ⟨_, X, eT, fun t q => X.ldcFloatC C.hx ho (mvT hZ w) (g := mkF m pc Ls st) rfl (hb C.hby hd) _ q⟩) H
theorem Wk.cast (C : Cx Z p s m meth c y bytes maxL ret) {K : String} {index : Nat} (w : (Cond.classLink y.cls index K).before a0 Z = true) {a : Addr} (F : Ins Z h a K true) {pc : Nat} {Ls : Array Slot} {st : List Value} (hd : decode bytes pc = .ok (.checkcast index, 3))
    (H : Wk W p l e R s m args below meth c n0 Q h k n (mkF m (pc + 3) Ls (.ref a :: st))) : Wk W p l e R s m args below meth c n0 Q h k n (mkF m pc Ls (.ref a :: st)) :=
  Wk.stZ C (fun X hZ ho eT => castY X C.hx hZ ho w eT F (g := mkF m pc Ls (.ref a :: st)) rfl rfl (hb C.hby hd)) H
theorem Wk.getS (C : Cx Z p s m meth c y bytes maxL ret) {O nm d : String} {index : Nat} (w : (Cond.fieldLink y.cls index O nm d).before a0 Z = true) {v : Value} (F : Sta Z h O nm d v) {pc : Nat} {Ls : Array Slot} {st : List Value} (hd : decode bytes pc = .ok (.getstatic index, 3))
    (H : Wk W p l e R s m args below meth c n0 Q h k n (mkF m (pc + 3) Ls (v :: st))) : Wk W p l e R s m args below meth c n0 Q h k n (mkF m pc Ls st) :=
  Wk.stZ C (fun X hZ ho eT => Jvm.RoadKit.getS (host := "") X C.hx hZ ho w Via.refl eT F (g := mkF m pc Ls st) rfl (hb C.hby hd)) H
theorem Wk.getF (C : Cx Z p s m meth c y bytes maxL ret) {R0 O nm d : String} {index : Nat} (w : (Cond.fieldLink y.cls index R0 nm d).before a0 Z = true) (via : Via Z R0 O nm d) {a : Addr} {v : Value} (F : Fld Z h a O nm d v) {pc : Nat} {Ls : Array Slot} {st : List Value} (hd : decode bytes pc = .ok (.getfield index, 3))
    (H : Wk W p l e R s m args below meth c n0 Q h k n (mkF m (pc + 3) Ls (v :: st))) : Wk W p l e R s m args below meth c n0 Q h k n (mkF m pc Ls (.ref a :: st)) :=
  Wk.stZ C (fun X hZ ho eT => Jvm.RoadKit.getF (host := "") X C.hx hZ ho (Or.inl w) via eT F (g := mkF m pc Ls (.ref a :: st)) rfl rfl (hb C.hby hd)) H
theorem Wk.putF (C : Cx Z p s m meth c y bytes maxL ret) {R0 O nm d K : String} {index kk : Nat} {ty : FieldType} (w : (Cond.fieldLink y.cls index R0 nm d).before a0 Z = true) (via : Via Z R0 O nm d) {a : Addr} {v v' old : Value} (F : Fld Z h a O nm d old) (E : Exa Z h a K)
    (L : (Cond.lays K O nm d).before a0 Z = true ∨ ((Cond.laysFinal K O nm d).before a0 Z = true ∧ y.cls = O ∧ y.name = "<init>")) (wi : (Cond.instantiable K kk).before a0 Z = true) (hty : parseFieldDescriptor d = some ty) (hn : narrow ty v = v') (hf : fits ty v' = true) (ge : n0 ≤ a)
    {pc : Nat} {Ls : Array Slot} {st : List Value} (hd : decode bytes pc = .ok (.putfield index, 3))
    (H : ∀ h', Wr h h' a (Jvm.RoadKit.slotOf Z O nm d) v' → Wk W p l e R s m args below meth c n0 Q h' k n (mkF m (pc + 3) Ls st)) : Wk W p l e R s m args below meth c n0 Q h k n (mkF m pc Ls (v :: .ref a :: st)) :=
  Wk.stW C ge (fun X hZ ho eT => Jvm.RoadKit.putFN X C.hx hZ ho w via eT F E (L.imp id fun q => ⟨q.1, q.2.1, C.hnm.trans q.2.2⟩) wi hty hn hf (g := mkF m pc Ls (v :: .ref a :: st)) rfl rfl (hb C.hby hd)) H
theorem Wk.newO (C : Cx Z p s m meth c y bytes maxL ret) {K : String} {index sz : Nat} (w : (Cond.classLink y.cls index K).before a0 Z = true) (wi : (Cond.instantiable K sz).before a0 Z = true) (wz : (Cond.initialized K).before a0 Z = true) {pc : Nat} {Ls : Array Slot} {st : List Value} (hd : decode bytes pc = .ok (.new index, 3)) (hc : k + 1 ≤ R.cells) (hl : n + sz ≤ R.slots)
    (H : ∀ h' a, a = h.size → Ext h h' → Exa Z h' a K → (∀ {O nm d : String} {ty : FieldType}, Laid Z a0 K O nm d → parseFieldDescriptor d = some ty → Fld Z h' a O nm d (defaultValue ty)) → Wk W p l e R s m args below meth c n0 Q h' (k + 1) (n + sz) (mkF m (pc + 3) Ls (.ref a :: st))) :
    Wk W p l e R s m args below meth c n0 Q h k n (mkF m pc Ls st) := by
  intro T L vm0 X B eT N
  obtain ⟨T', h', X', e', E, A, D, -, st⟩ := Jvm.RoadKit.newO X C.hx (C.wZ B) (C.wo B) w wi wz eT (g := mkF m pc Ls st) rfl (hb C.hby hd) hc hl
  obtain ⟨s₂, o, h1, h2⟩ := H h' _ rfl E A D T' L vm0 X' (B.mono E.1) e' N
  exact ⟨s₂, o, st _ h1, h2⟩
theorem Wk.newP (C : Cx Z p s m meth c y bytes maxL ret) {aty : ArrayType} (w : (Cond.arrayClass (newarray.typeOf aty)).before a0 Z = true) {z : Int32} (hz : ¬ z < 0) {cap : Nat} (hcap : z.toNatClampNeg ≤ cap) (hbig : cap * 8 ≤ 536870912) {pc : Nat} {Ls : Array Slot} {st : List Value} (hd : decode bytes pc = .ok (.newarray aty, 2)) (hc : k + 1 ≤ R.cells) (hl : n + cap ≤ R.slots)
    (H : ∀ h' a cA, a = h.size → Ext h h' → Arr Z h' a (newA cA (newarray.typeOf aty) z) (newarray.typeOf aty) → Wk W p l e R s m args below meth c n0 Q h' (k + 1) (n + cap) (mkF m (pc + 2) Ls (.ref a :: st))) :
    Wk W p l e R s m args below meth c n0 Q h k n (mkF m pc Ls (.int z :: st)) := by
  intro T L vm0 X B eT N
  obtain ⟨T', h', cA, X', e', E, A, st⟩ := Jvm.RoadKit.newP X C.hx (C.wZ B) w eT (g := mkF m pc Ls (.int z :: st)) rfl (hb C.hby hd) rfl hz hcap hbig hc hl
  obtain ⟨s₂, o, h1, h2⟩ := H h' _ cA rfl E A T' L vm0 X' (B.mono E.1) e' N
  exact ⟨s₂, o, st _ h1, h2⟩
theorem Wk.newR (C : Cx Z p s m meth c y bytes maxL ret) {K : String} {index : Nat} (w1 : (Cond.classLink y.cls index K).before a0 Z = true) (w2 : (Cond.arrayOver (.object K)).before a0 Z = true) {z : Int32} (hz : ¬ z < 0) {cap : Nat} (hcap : z.toNatClampNeg ≤ cap) (hbig : cap * 8 ≤ 536870912) {pc : Nat} {Ls : Array Slot} {st : List Value} (hd : decode bytes pc = .ok (.anewarray index, 3)) (hc : k + 1 ≤ R.cells) (hl : n + cap ≤ R.slots)
    (H : ∀ h' a cA, a = h.size → Ext h h' → Arr Z h' a (newA cA (.object K) z) (.object K) → Ovr Z cA K → Wk W p l e R s m args below meth c n0 Q h' (k + 1) (n + cap) (mkF m (pc + 3) Ls (.ref a :: st))) :
    Wk W p l e R s m args below meth c n0 Q h k n (mkF m pc Ls (.int z :: st)) := by
  intro T L vm0 X B eT N
  obtain ⟨T', h', cA, X', e', E, A, O, st⟩ := Jvm.RoadKit.newR X C.hx (C.wZ B) (C.wo B) w1 w2 eT (g := mkF m pc Ls (.int z :: st)) rfl (hb C.hby hd) rfl hz hcap hbig hc hl
  obtain ⟨s₂, o, h1, h2⟩ := H h' _ cA rfl E A O T' L vm0 X' (B.mono E.1) e' N
  exact ⟨s₂, o, st _ h1, h2⟩
theorem Wk.stI (C : Cx Z p s m meth c y bytes maxL ret) {a : Addr} {cl : Cell} (A : Arr Z h a cl .int) {j x : Int32} (hj : ¬ (j < 0 ∨ cl.slots.size ≤ j.toNatClampNeg)) (ge : n0 ≤ a) {pc : Nat} {Ls : Array Slot} {st : List Value} (hd : decode bytes pc = .ok (.iastore, 1))
    (H : ∀ h', Wr h h' a j.toNatClampNeg (.int x) → Wk W p l e R s m args below meth c n0 Q h' k n (mkF m (pc + 1) Ls st)) : Wk W p l e R s m args below meth c n0 Q h k n (mkF m pc Ls (.int x :: .int j :: .ref a :: st)) :=
  Wk.stW C ge (fun X hZ ho eT => Jvm.RoadKit.stI X C.hx hZ eT A hj (g := mkF m pc Ls (.int x :: .int j :: .ref a :: st)) rfl rfl (hb C.hby hd)) H
theorem Wk.stJ (C : Cx Z p s m meth c y bytes maxL ret) {a : Addr} {cl : Cell} (A : Arr Z h a cl .long) {j : Int32} {x : Int64} (hj : ¬ (j < 0 ∨ cl.slots.size ≤ j.toNatClampNeg)) (ge : n0 ≤ a) {pc : Nat} {Ls : Array Slot} {st : List Value} (hd : decode bytes pc = .ok (.lastore, 1))
    (H : ∀ h', Wr h h' a j.toNatClampNeg (.long x) → Wk W p l e R s m args below meth c n0 Q h' k n (mkF m (pc + 1) Ls st)) : Wk W p l e R s m args below meth c n0 Q h k n (mkF m pc Ls (.long x :: .int j :: .ref a :: st)) :=
  Wk.stW C ge (fun X hZ ho eT => Jvm.RoadKit.stJ X C.hx hZ eT A hj (g := mkF m pc Ls (.long x :: .int j :: .ref a :: st)) rfl rfl (hb C.hby hd)) H
theorem Wk.stR (C : Cx Z p s m meth c y bytes maxL ret) {a : Addr} {cl : Cell} {ty : FieldType} (A : Arr Z h a cl ty) {j : Int32} {v : Value} (hj : ¬ (j < 0 ∨ cl.slots.size ≤ j.toNatClampNeg)) (hty : ty.isReference = true) (F : Sto Z h a v) (ge : n0 ≤ a) {pc : Nat} {Ls : Array Slot} {st : List Value} (hd : decode bytes pc = .ok (.aastore, 1))
    (H : ∀ h', Wr h h' a j.toNatClampNeg v → Wk W p l e R s m args below meth c n0 Q h' k n (mkF m (pc + 1) Ls st)) : Wk W p l e R s m args below meth c n0 Q h k n (mkF m pc Ls (v :: .int j :: .ref a :: st)) :=
  Wk.stW C ge (fun X hZ ho eT => Jvm.RoadKit.stR X C.hx hZ eT A hj hty F (g := mkF m pc Ls (v :: .int j :: .ref a :: st)) rfl rfl (hb C.hby hd)) H
theorem Wk.len (C : Cx Z p s m meth c y bytes maxL ret) {a : Addr} {cl : Cell} {ty : FieldType} (A : Arr Z h a cl ty) {pc : Nat} {Ls : Array Slot} {st : List Value} (hd : decode bytes pc = .ok (.arraylength, 1))
    (H : Wk W p l e R s m args below meth c n0 Q h k n (mkF m (pc + 1) Ls (.int cl.slots.size.toInt32 :: st))) : Wk W p l e R s m args below meth c n0 Q h k n (mkF m pc Ls (.ref a :: st)) :=
  Wk.stZ C (fun X hZ ho eT => ⟨_, X, eT, X.arraylength C.hx (by rw [eT]; exact A.1) (State.isArrayOf_alike hZ.alike A.2.1) (g := mkF m pc Ls (.ref a :: st)) rfl rfl (hb C.hby hd)⟩) H
theorem Wk.ldI (C : Cx Z p s m meth c y bytes maxL ret) {a : Addr} {cl : Cell} (A : Arr Z h a cl .int) {j : Int32} {v : Value} (hj : ¬ (j < 0 ∨ cl.slots.size ≤ j.toNatClampNeg)) (hv : cl.slots[j.toNatClampNeg]? = some v) {pc : Nat} {Ls : Array Slot} {st : List Value} (hd : decode bytes pc = .ok (.iaload, 1))
    (H : Wk W p l e R s m args below meth c n0 Q h k n (mkF m (pc + 1) Ls (v :: st))) : Wk W p l e R s m args below meth c n0 Q h k n (mkF m pc Ls (.int j :: .ref a :: st)) :=
  Wk.stZ C (fun X hZ ho eT => ⟨_, X, eT, X.iaload C.hx (by rw [eT]; exact A.1) (State.isArrayOf_alike hZ.alike A.2.1) A.2.2 hj hv (g := mkF m pc Ls (.int j :: .ref a :: st)) rfl rfl (hb C.hby hd)⟩) H
theorem Wk.ldJ (C : Cx Z p s m meth c y bytes maxL ret) {a : Addr} {cl : Cell} (A : Arr Z h a cl .long) {j : Int32} {v : Value} (hj : ¬ (j < 0 ∨ cl.slots.size ≤ j.toNatClampNeg)) (hv : cl.slots[j.toNatClampNeg]? = some v) {pc : Nat} {Ls : Array Slot} {st : List Value} (hd : decode bytes pc = .ok (.laload, 1))
    (H : Wk W p l e R s m args below meth c n0 Q h k n (mkF m (pc + 1) Ls (v :: st))) : Wk W p l e R s m args below meth c n0 Q h k n (mkF m pc Ls (.int j :: .ref a :: st)) :=
  Wk.stZ C (fun X hZ ho eT => ⟨_, X, eT, X.laload C.hx (by rw [eT]; exact A.1) (State.isArrayOf_alike hZ.alike A.2.1) A.2.2 hj hv (g := mkF m pc Ls (.int j :: .ref a :: st)) rfl rfl (hb C.hby hd)⟩) H
theorem Wk.ldR (C : Cx Z p s m meth c y bytes maxL ret) {a : Addr} {cl : Cell} {ty : FieldType} (A : Arr Z h a cl ty) (hty : ty.isReference = true) {j : Int32} {v : Value} (hj : ¬ (j < 0 ∨ cl.slots.size ≤ j.toNatClampNeg)) (hv : cl.slots[j.toNatClampNeg]? = some v) {pc : Nat} {Ls : Array Slot} {st : List Value} (hd : decode bytes pc = .ok (.aaload, 1))
    (H : Wk W p l e R s m args below meth c n0 Q h k n (mkF m (pc + 1) Ls (v :: st))) : Wk W p l e R s m args below meth c n0 Q h k n (mkF m pc Ls (.int j :: .ref a :: st)) :=
  Wk.stZ C (fun X hZ ho eT => ⟨_, X, eT, X.aaload C.hx (by rw [eT]; exact A.1) (State.isArrayOf_alike hZ.alike A.2.1) hty A.2.2 hj hv (g := mkF m pc Ls (.int j :: .ref a :: st)) rfl rfl (hb C.hby hd)⟩) H
theorem Wk.ldZ (C : Cx Z p s m meth c y bytes maxL ret) {a : Addr} {cl : Cell} (A : Arr Z h a cl .boolean) {j : Int32} {v : Value} (hj : ¬ (j < 0 ∨ cl.slots.size ≤ j.toNatClampNeg)) (hv : cl.slots[j.toNatClampNeg]? = some v) {pc : Nat} {Ls : Array Slot} {st : List Value} (hd : decode bytes pc = .ok (.baload, 1))
    (H : Wk W p l e R s m args below meth c n0 Q h k n (mkF m (pc + 1) Ls (v :: st))) : Wk W p l e R s m args below meth c n0 Q h k n (mkF m pc Ls (.int j :: .ref a :: st)) :=
  Wk.stZ C (fun X hZ ho eT => ⟨_, X, eT, X.baloadBooleans C.hx (by rw [eT]; exact A.1) (State.isArrayOf_alike hZ.alike A.2.1) A.2.2 hj hv (g := mkF m pc Ls (.int j :: .ref a :: st)) rfl rfl (hb C.hby hd)⟩) H
theorem Wk.stZb (C : Cx Z p s m meth c y bytes maxL ret) {a : Addr} {cl : Cell} (A : Arr Z h a cl .boolean) {j x : Int32} (hj : ¬ (j < 0 ∨ cl.slots.size ≤ j.toNatClampNeg)) (ge : n0 ≤ a) {pc : Nat} {Ls : Array Slot} {st : List Value} (hd : decode bytes pc = .ok (.bastore, 1))
    (H : ∀ h', Wr h h' a j.toNatClampNeg (.int (nar .boolean x)) → Wk W p l e R s m args below meth c n0 Q h' k n (mkF m (pc + 1) Ls st)) : Wk W p l e R s m args below meth c n0 Q h k n (mkF m pc Ls (.int x :: .int j :: .ref a :: st)) :=
  Wk.stW C ge (fun X hZ ho eT => Jvm.RoadKit.stZ X C.hx hZ eT A hj (g := mkF m pc Ls (.int x :: .int j :: .ref a :: st)) rfl rfl (hb C.hby hd)) H
theorem Wk.stB (C : Cx Z p s m meth c y bytes maxL ret) {a : Addr} {cl : Cell} (A : Arr Z h a cl .byte) {j x : Int32} (hj : ¬ (j < 0 ∨ cl.slots.size ≤ j.toNatClampNeg)) (ge : n0 ≤ a) {pc : Nat} {Ls : Array Slot} {st : List Value} (hd : decode bytes pc = .ok (.bastore, 1))
    (H : ∀ h', Wr h h' a j.toNatClampNeg (.int (nar .byte x)) → Wk W p l e R s m args below meth c n0 Q h' k n (mkF m (pc + 1) Ls st)) : Wk W p l e R s m args below meth c n0 Q h k n (mkF m pc Ls (.int x :: .int j :: .ref a :: st)) :=
  Wk.stW C ge (fun X hZ ho eT => Jvm.RoadKit.stB X C.hx hZ eT A hj (g := mkF m pc Ls (.int x :: .int j :: .ref a :: st)) rfl rfl (hb C.hby hd)) H
theorem Wk.stC (C : Cx Z p s m meth c y bytes maxL ret) {a : Addr} {cl : Cell} (A : Arr Z h a cl .char) {j x : Int32} (hj : ¬ (j < 0 ∨ cl.slots.size ≤ j.toNatClampNeg)) (ge : n0 ≤ a) {pc : Nat} {Ls : Array Slot} {st : List Value} (hd : decode bytes pc = .ok (.castore, 1))
    (H : ∀ h', Wr h h' a j.toNatClampNeg (.int (nar .char x)) → Wk W p l e R s m args below meth c n0 Q h' k n (mkF m (pc + 1) Ls st)) : Wk W p l e R s m args below meth c n0 Q h k n (mkF m pc Ls (.int x :: .int j :: .ref a :: st)) :=
  Wk.stW C ge (fun X hZ ho eT => Jvm.RoadKit.stC X C.hx hZ eT A hj (g := mkF m pc Ls (.int x :: .int j :: .ref a :: st)) rfl rfl (hb C.hby hd)) H
theorem Wk.initO (C : Cx Z p s m meth c y bytes maxL ret) {index : Nat} (w1 : (Cond.methodLink y.cls index Lib.objectInit).before a0 Z = true) (w2 : (Cond.instanceMethod Lib.objectInit).before a0 Z = true) (w3 : (Cond.code Lib.objectInit ⟨#[0xb1]⟩ 1 none).before a0 Z = true) {a : Addr} {w : Nat} {pc : Nat} {Ls : Array Slot} {st : List Value} (hls : Ls.size = maxL) (hd : decode bytes pc = .ok (.invokespecial index, 3)) (hf : 1 ≤ R.frames) (hw : (st.map fun v => v.category).sum ≤ w) (hl : w + 12 ≤ R.locals)
    (H : Wk W p l e R s m args below meth c n0 Q h k n (mkF m (pc + 3) Ls st)) : Wk W p l e R s m args below meth c n0 Q h k n (mkF m pc Ls (.ref a :: st)) :=
  Wk.stZ C (fun X hZ ho eT => Jvm.RoadKit.initO X C.hx hZ ho w1 w2 w3 eT (g := mkF m pc Ls (.ref a :: st)) rfl (hls.trans C.hml.symm) rfl (hb C.hby hd) hf (W := w) (by show 2 * 0 + _ ≤ _; omega) hl) H
theorem Wk.retV (C : Cx Z p s m meth c y bytes maxL ret) {pc : Nat} {Ls : Array Slot} {w : Value} {t : FieldType} {i : Instr} {rest : List Value} (ht : ret = some t) (hn : narrow t w = w)
    (hi : (i = .ireturn ∧ (t = .int ∨ t = .boolean ∨ t = .byte ∨ t = .char ∨ t = .short) ∧ ∃ z, w = .int z) ∨ (i = .lreturn ∧ t = .long ∧ ∃ z, w = .long z) ∨ (i = .dreturn ∧ t = .double ∧ ∃ z, w = .double z) ∨ (i = .freturn ∧ t = .float ∧ ∃ z, w = .float z) ∨ (i = .areturn ∧ t.isReference = true ∧ w.isRef = true))
    (hd : decode bytes pc = .ok (i, 1)) (hk : k ≤ R.cells) (hs : n ≤ R.slots) (hq : Q (some w) h) : Wk W p l e R s m args below meth c n0 Q h k n (mkF m pc Ls (w :: rest)) := by
  intro T L vm0 X B eT N
  have hlk := C.hlk
  have hv : meth.sig.returnType = none → (some w : Option Value) = none := fun h => by rw [C.hret, ht] at h; cases h
  cases W
  · cases (B : vm0 = s.vm)
    obtain ⟨fs, hr, hrun, hended, hW, hsame⟩ := Stand.leave (s := s) X (v := some w) hv hlk
    refine ⟨_, _, retOut X C.hx (C.hret.trans ht) hn hi (hb C.hby hd) hr, hrun, hended, _, L, rfl, ⟨?_, N⟩, ⟨_, rfl⟩, hW, hsame.mono hk hs⟩
    show Q (some w) T.heap
    rw [eT]; exact hq
  · obtain ⟨k0, hS, hk0⟩ := (B : ∃ k0, s.Since vm0 k0 ∧ k0 ≤ h.size)
    obtain ⟨fs, hr, hrun, hended, hE⟩ := X.leaveW hS (by rw [eT]; exact hk0) (v := some w) hv hlk
    refine ⟨_, _, retOut X C.hx (C.hret.trans ht) hn hi (hb C.hby hd) hr, hrun, hended, _, L, rfl, ⟨?_, N⟩, hE.1, hE.2.1, hE.2.2.1, hE.2.2.2.mono hk hs⟩
    show Q (some w) T.heap
    rw [eT]; exact hq
theorem Wk.retN0 (C : Cx Z p s m meth c y bytes maxL ret) {pc : Nat} {Ls : Array Slot} (ht : ret = none) (hd : decode bytes pc = .ok (.return_, 1)) (hk : k ≤ R.cells) (hs : n ≤ R.slots) (hq : Q none h) : Wk W p l e R s m args below meth c n0 Q h k n (mkF m pc Ls []) := by
  intro T L vm0 X B eT N
  have hlk := C.hlk
  have hv : meth.sig.returnType = none → (none : Option Value) = none := fun _ => rfl
  cases W
  · cases (B : vm0 = s.vm)
    obtain ⟨fs, hr, hrun, hended, hW, hsame⟩ := Stand.leave (s := s) X (v := none) hv hlk
    refine ⟨_, _, X.returnOut C.hx (C.hret.trans ht) (hb C.hby hd) hr, hrun, hended, _, L, rfl, ⟨?_, N⟩, ⟨_, rfl⟩, hW, hsame.mono hk hs⟩
    show Q none T.heap
    rw [eT]; exact hq
  · obtain ⟨k0, hS, hk0⟩ := (B : ∃ k0, s.Since vm0 k0 ∧ k0 ≤ h.size)
    obtain ⟨fs, hr, hrun, hended, hE⟩ := X.leaveW hS (by rw [eT]; exact hk0) (v := none) hv hlk
    refine ⟨_, _, X.returnOut C.hx (C.hret.trans ht) (hb C.hby hd) hr, hrun, hended, _, L, rfl, ⟨?_, N⟩, hE.1, hE.2.1, hE.2.2.1, hE.2.2.2.mono hk hs⟩
    show Q none T.heap
    rw [eT]; exact hq
/-- the three calls, by the callee's contract -/
theorem Wk.callS (C : Cx Z p s m meth c y bytes maxL ret) {z : MethodName} {index : Nat} {bz : ByteArray} {mz : Nat} {rz : Option FieldType} {rm : Room} {asL : List Value} {Qz : Option Value → Heap → Prop}
    (w1 : (Cond.methodLink y.cls index z).before a0 Z = true) (w2 : (Cond.static z).before a0 Z = true) (w3 : (Cond.initialized z.cls).before a0 Z = true) (w4 : (Cond.code z bz mz rz).before a0 Z = true)
    (hz : z.cls ≠ "java/lang/invoke/MethodHandle" ∧ z.cls ≠ "java/lang/invoke/VarHandle") (M : Met W l Z n0 z bz mz rz rm asL.toArray h Qz) {w : Nat} (hf : rm.frames + 1 ≤ R.frames) (hl : w + (mz + 11) + rm.locals ≤ R.locals)
    {ps : List FieldType} {r : Option FieldType} (hlen : parseMethodDescriptor z.desc = some ⟨ps, r⟩) (hps : asL.length = ps.length) {pc : Nat} {Ls : Array Slot} {st rest : List Value} (hls : Ls.size = maxL) (hst : st = asL.reverse ++ rest) (hw : (rest.map fun v => v.category).sum ≤ w)
    (hc : k + rm.cells ≤ R.cells) (hs : n + rm.slots ≤ R.slots) (hd : decode bytes pc = .ok (.invokestatic index, 3))
    (H : ∀ v h', Qz v h' → Wk W p l e R s m args below meth c n0 Q h' (k + rm.cells) (n + rm.slots) (mkF m (pc + 3) Ls (v.toList ++ rest))) : Wk W p l e R s m args below meth c n0 Q h k n (mkF m pc Ls st) := by
  intro T L vm0 X B eT N
  subst hst
  have hZ := C.wZ B
  have ho := C.wo B
  have hw' : 2 * (mkF m pc Ls (asL.reverse ++ rest)).monitorRoom + (rest.map fun v => v.category).sum ≤ w := by show 2 * 0 + _ ≤ _; omega
  cases W
  · obtain ⟨v, vm₁, ⟨T', L', k', n'⟩, -, X', ⟨Lc, hQ, l1, y1, z1⟩, st⟩ := Jvm.LawKit.callS X C.hx ho (mvT hZ w1) (mvT hZ w2) (mvT hZ w3) (mvT hZ w4) hz (backOf (W := w) (Q := fun v h L => Qz v h ∧ Fr n0 L) (M []) hZ w4 w3 hf hl) (g := mkF m pc Ls (asL.reverse ++ rest)) rfl (hls.trans C.hml.symm) (argsL := asL) (rest := rest) (lenOf hlen hps) rfl hw' (hb C.hby hd) (fun _ _ => ⟨rfl, eT, hc, hs⟩)
    dsimp only [Pt.U, Pt.locs, Pt.cells, Pt.slots] at X' l1 y1 z1 st hQ
    subst l1 y1 z1
    obtain ⟨s₂, o, h1, h2⟩ := H v T'.heap hQ.1 T' _ vm0 X' (B : vm0 = s.vm) rfl (N.app hQ.2)
    exact ⟨s₂, o, st _ h1, h2⟩
  · obtain ⟨v, vm₁, ⟨T', L', k', n'⟩, -, X', hS', hgr, ⟨Lc, hQ, l1, y1, z1⟩, st⟩ := callSS X C.hx ho (mvT hZ w1) (mvT hZ w2) (mvT hZ w3) (mvT hZ w4) hz (backOfS (W := w) (Q := fun v h L => Qz v h ∧ Fr n0 L) (M []) hZ w4 w3 hf hl) (g := mkF m pc Ls (asL.reverse ++ rest)) rfl (hls.trans C.hml.symm) (argsL := asL) (rest := rest) (lenOf hlen hps) rfl hw' (hb C.hby hd) (fun _ _ => ⟨rfl, eT, hc, hs⟩)
    dsimp only [Pt.U, Pt.locs, Pt.cells, Pt.slots] at X' hS' hgr l1 y1 z1 st hQ
    subst l1 y1 z1
    obtain ⟨k0, hS, hk0⟩ := (B : ∃ k0, s.Since vm0 k0 ∧ k0 ≤ h.size)
    obtain ⟨s₂, o, h1, h2⟩ := H v T'.heap hQ.1 T' _ T'.vm X' ⟨_, foldS hS (by rw [eT]; exact hk0) hS' hgr, Nat.le_refl _⟩ rfl (N.app hQ.2)
    exact ⟨s₂, o, st.trans h1, h2⟩
theorem Wk.callI (C : Cx Z p s m meth c y bytes maxL ret) {z : MethodName} {index : Nat} {bz : ByteArray} {mz : Nat} {rm : Room} {a : Addr} {asL : List Value} {Qz : Option Value → Heap → Prop} (hz1 : z.name = "<init>")
    (w1 : (Cond.methodLink y.cls index z).before a0 Z = true) (w2 : (Cond.instanceMethod z).before a0 Z = true) (w3 : (Cond.initialized z.cls).before a0 Z = true) (w4 : (Cond.code z bz mz none).before a0 Z = true)
    (hz : z.cls ≠ "java/lang/invoke/MethodHandle" ∧ z.cls ≠ "java/lang/invoke/VarHandle") (M : Met W l Z n0 z bz mz none rm (.ref a :: asL).toArray h Qz) {w : Nat} (hf : rm.frames + 1 ≤ R.frames) (hl : w + (mz + 11) + rm.locals ≤ R.locals)
    {ps : List FieldType} {r : Option FieldType} (hlen : parseMethodDescriptor z.desc = some ⟨ps, r⟩) (hps : asL.length = ps.length) {pc : Nat} {Ls : Array Slot} {st rest : List Value} (hls : Ls.size = maxL) (hst : st = asL.reverse ++ .ref a :: rest) (hw : (rest.map fun v => v.category).sum ≤ w)
    (hc : k + rm.cells ≤ R.cells) (hs : n + rm.slots ≤ R.slots) (hd : decode bytes pc = .ok (.invokespecial index, 3))
    (H : ∀ v h', Qz v h' → Wk W p l e R s m args below meth c n0 Q h' (k + rm.cells) (n + rm.slots) (mkF m (pc + 3) Ls (v.toList ++ rest))) : Wk W p l e R s m args below meth c n0 Q h k n (mkF m pc Ls st) := by
  intro T L vm0 X B eT N
  subst hst
  have hZ := C.wZ B
  have ho := C.wo B
  have hw' : 2 * (mkF m pc Ls (asL.reverse ++ .ref a :: rest)).monitorRoom + (rest.map fun v => v.category).sum ≤ w := by show 2 * 0 + _ ≤ _; omega
  cases W
  · obtain ⟨v, vm₁, ⟨T', L', k', n'⟩, -, X', ⟨Lc, hQ, l1, y1, z1⟩, st⟩ := X.specialBack C.hx hz1 ho (mvT hZ w1) (mvT hZ w2) (mvT hZ w4) hz (backOf (W := w) (Q := fun v h L => Qz v h ∧ Fr n0 L) (M []) hZ w4 w3 hf hl) (g := mkF m pc Ls (asL.reverse ++ .ref a :: rest)) rfl (hls.trans C.hml.symm) (Steps.refl _) (a := a) (argsL := asL) (rest := rest) (lenOf hlen hps) rfl hw' (hb C.hby hd) (fun _ _ => ⟨rfl, eT, hc, hs⟩)
    dsimp only [Pt.U, Pt.locs, Pt.cells, Pt.slots] at X' l1 y1 z1 st hQ
    subst l1 y1 z1
    obtain ⟨s₂, o, h1, h2⟩ := H v T'.heap hQ.1 T' _ vm0 X' (B : vm0 = s.vm) rfl (N.app hQ.2)
    exact ⟨s₂, o, st.trans h1, h2⟩
  · obtain ⟨v, vm₁, ⟨T', L', k', n'⟩, -, X', hS', hgr, ⟨Lc, hQ, l1, y1, z1⟩, st⟩ := X.specialBackS C.hx hz1 ho (mvT hZ w1) (mvT hZ w2) (mvT hZ w4) hz (backOfS (W := w) (Q := fun v h L => Qz v h ∧ Fr n0 L) (M []) hZ w4 w3 hf hl) (g := mkF m pc Ls (asL.reverse ++ .ref a :: rest)) rfl (hls.trans C.hml.symm) (Steps.refl _) (a := a) (argsL := asL) (rest := rest) (lenOf hlen hps) rfl hw' (hb C.hby hd) (fun _ _ => ⟨rfl, eT, hc, hs⟩)
    dsimp only [Pt.U, Pt.locs, Pt.cells, Pt.slots] at X' hS' hgr l1 y1 z1 st hQ
    subst l1 y1 z1
    obtain ⟨k0, hS, hk0⟩ := (B : ∃ k0, s.Since vm0 k0 ∧ k0 ≤ h.size)
    obtain ⟨s₂, o, h1, h2⟩ := H v T'.heap hQ.1 T' _ T'.vm X' ⟨_, foldS hS (by rw [eT]; exact hk0) hS' hgr, Nat.le_refl _⟩ rfl (N.app hQ.2)
    exact ⟨s₂, o, st.trans h1, h2⟩
theorem Wk.callV (C : Cx Z p s m meth c y bytes maxL ret) {x z : MethodName} {K : String} {index : Nat} {bz : ByteArray} {mz : Nat} {rz : Option FieldType} {rm : Room} {a : Addr} {asL : List Value} {Qz : Option Value → Heap → Prop}
    (w1 : (Cond.methodLink y.cls index x).before a0 Z = true) (w2 : (Cond.declares x).before a0 Z = true) (w5 : (Cond.selects K x z).before a0 Z = true) (w6 : (Cond.instanceMethod z).before a0 Z = true) (w3 : (Cond.initialized z.cls).before a0 Z = true) (w4 : (Cond.code z bz mz rz).before a0 Z = true)
    (hz : x.cls ≠ "java/lang/invoke/MethodHandle" ∧ x.cls ≠ "java/lang/invoke/VarHandle") (hnf : ∀ s' : State, Z.Warmed39 s'.vm → NotFace s' x) (E : Exa Z h a K) (M : Met W l Z n0 z bz mz rz rm (.ref a :: asL).toArray h Qz) {w : Nat} (hf : rm.frames + 1 ≤ R.frames) (hl : w + (mz + 11) + rm.locals ≤ R.locals)
    {ps : List FieldType} {r : Option FieldType} (hlen : parseMethodDescriptor x.desc = some ⟨ps, r⟩) (hps : asL.length = ps.length) {pc : Nat} {Ls : Array Slot} {st rest : List Value} (hls : Ls.size = maxL) (hst : st = asL.reverse ++ .ref a :: rest) (hw : (rest.map fun v => v.category).sum ≤ w)
    (hc : k + rm.cells ≤ R.cells) (hs : n + rm.slots ≤ R.slots) (hd : decode bytes pc = .ok (.invokevirtual index, 3))
    (H : ∀ v h', Qz v h' → Wk W p l e R s m args below meth c n0 Q h' (k + rm.cells) (n + rm.slots) (mkF m (pc + 3) Ls (v.toList ++ rest))) : Wk W p l e R s m args below meth c n0 Q h k n (mkF m pc Ls st) := by
  intro T L vm0 X B eT N
  subst hst
  have hZ := C.wZ B
  have ho := C.wo B
  have hw' : 2 * (mkF m pc Ls (asL.reverse ++ .ref a :: rest)).monitorRoom + (rest.map fun v => v.category).sum ≤ w := by show 2 * 0 + _ ≤ _; omega
  obtain ⟨cq, kq, qa, qb, qc⟩ := isOf hZ eT E
  cases W
  · obtain ⟨v, vm₁, ⟨T', L', k', n'⟩, -, X', ⟨Lc, hQ, l1, y1, z1⟩, st⟩ := X.virtualBack C.hx (y := x) (z := z) ho (mvT hZ w1) (mvT hZ w2) (hnf _ hZ) (mvT hZ w5) (mvT hZ w6) hz (backOf (W := w) (Q := fun v h L => Qz v h ∧ Fr n0 L) (M []) hZ w4 w3 hf hl) qa qc (g := mkF m pc Ls (asL.reverse ++ .ref a :: rest)) rfl (hls.trans C.hml.symm) (Steps.refl _) (argsL := asL) (rest := rest) (lenOf hlen hps) rfl hw' (hb C.hby hd) (fun _ _ => ⟨rfl, eT, hc, hs⟩)
    dsimp only [Pt.U, Pt.locs, Pt.cells, Pt.slots] at X' l1 y1 z1 st hQ
    subst l1 y1 z1
    obtain ⟨s₂, o, h1, h2⟩ := H v T'.heap hQ.1 T' _ vm0 X' (B : vm0 = s.vm) rfl (N.app hQ.2)
    exact ⟨s₂, o, st.trans h1, h2⟩
  · obtain ⟨v, vm₁, ⟨T', L', k', n'⟩, -, X', hS', hgr, ⟨Lc, hQ, l1, y1, z1⟩, st⟩ := X.virtualBackS C.hx (y := x) (z := z) ho (mvT hZ w1) (mvT hZ w2) (hnf _ hZ) (mvT hZ w5) (mvT hZ w6) hz (backOfS (W := w) (Q := fun v h L => Qz v h ∧ Fr n0 L) (M []) hZ w4 w3 hf hl) qa qc (g := mkF m pc Ls (asL.reverse ++ .ref a :: rest)) rfl (hls.trans C.hml.symm) (Steps.refl _) (argsL := asL) (rest := rest) (lenOf hlen hps) rfl hw' (hb C.hby hd) (fun _ _ => ⟨rfl, eT, hc, hs⟩)
    dsimp only [Pt.U, Pt.locs, Pt.cells, Pt.slots] at X' hS' hgr l1 y1 z1 st hQ
    subst l1 y1 z1
    obtain ⟨k0, hS, hk0⟩ := (B : ∃ k0, s.Since vm0 k0 ∧ k0 ≤ h.size)
    obtain ⟨s₂, o, h1, h2⟩ := H v T'.heap hQ.1 T' _ T'.vm X' ⟨_, foldS hS (by rw [eT]; exact hk0) hS' hgr, Nat.le_refl _⟩ rfl (N.app hQ.2)
    exact ⟨s₂, o, st.trans h1, h2⟩
theorem Wk.callU (C : Cx Z p s m meth c y bytes maxL ret) {x z : MethodName} {K owner : String} {index : Nat} {bz : ByteArray} {mz : Nat} {rz : Option FieldType} {rm : Room} {a : Addr} {asL : List Value} {Qz : Option Value → Heap → Prop}
    (w1 : (Cond.methodLink y.cls index x).before a0 Z = true) (w7 : (Cond.sameMethod x.cls owner x.name x.desc).before a0 Z = true) (w2 : (Cond.declares ⟨owner, x.name, x.desc⟩).before a0 Z = true) (w5 : (Cond.selects K x z).before a0 Z = true) (w6 : (Cond.instanceMethod z).before a0 Z = true) (w3 : (Cond.initialized z.cls).before a0 Z = true) (w4 : (Cond.code z bz mz rz).before a0 Z = true)
    (hz : owner ≠ "java/lang/invoke/MethodHandle" ∧ owner ≠ "java/lang/invoke/VarHandle") (E : Exa Z h a K) (M : Met W l Z n0 z bz mz rz rm (.ref a :: asL).toArray h Qz) {w : Nat} (hf : rm.frames + 1 ≤ R.frames) (hl : w + (mz + 11) + rm.locals ≤ R.locals)
    {ps : List FieldType} {r : Option FieldType} (hlen : parseMethodDescriptor x.desc = some ⟨ps, r⟩) (hps : asL.length = ps.length) {pc : Nat} {Ls : Array Slot} {st rest : List Value} (hls : Ls.size = maxL) (hst : st = asL.reverse ++ .ref a :: rest) (hw : (rest.map fun v => v.category).sum ≤ w)
    (hc : k + rm.cells ≤ R.cells) (hs : n + rm.slots ≤ R.slots) (hd : decode bytes pc = .ok (.invokevirtual index, 3))
    (H : ∀ v h', Qz v h' → Wk W p l e R s m args below meth c n0 Q h' (k + rm.cells) (n + rm.slots) (mkF m (pc + 3) Ls (v.toList ++ rest))) : Wk W p l e R s m args below meth c n0 Q h k n (mkF m pc Ls st) := by
  intro T L vm0 X B eT N
  subst hst
  have hZ := C.wZ B
  have ho := C.wo B
  have hw' : 2 * (mkF m pc Ls (asL.reverse ++ .ref a :: rest)).monitorRoom + (rest.map fun v => v.category).sum ≤ w := by show 2 * 0 + _ ≤ _; omega
  obtain ⟨cq, kq, qa, qb, qc⟩ := isOf hZ eT E
  cases W
  · obtain ⟨v, vm₁, ⟨T', L', k', n'⟩, -, X', ⟨Lc, hQ, l1, y1, z1⟩, st⟩ := X.virtualBackUp C.hx (x := x) (y := z) ho (mvT hZ w1) (mvT hZ w7) (mvT hZ w2) hz (mvT hZ w5) (mvT hZ w6) (backOf (W := w) (Q := fun v h L => Qz v h ∧ Fr n0 L) (M []) hZ w4 w3 hf hl) qa qc (g := mkF m pc Ls (asL.reverse ++ .ref a :: rest)) rfl (hls.trans C.hml.symm) (Steps.refl _) (argsL := asL) (rest := rest) (lenOf hlen hps) rfl hw' (hb C.hby hd) (fun _ _ => ⟨rfl, eT, hc, hs⟩)
    dsimp only [Pt.U, Pt.locs, Pt.cells, Pt.slots] at X' l1 y1 z1 st hQ
    subst l1 y1 z1
    obtain ⟨s₂, o, h1, h2⟩ := H v T'.heap hQ.1 T' _ vm0 X' (B : vm0 = s.vm) rfl (N.app hQ.2)
    exact ⟨s₂, o, st.trans h1, h2⟩
  · obtain ⟨v, vm₁, ⟨T', L', k', n'⟩, -, X', hS', hgr, ⟨Lc, hQ, l1, y1, z1⟩, st⟩ := X.virtualBackUpS C.hx (x := x) (y := z) ho (mvT hZ w1) (mvT hZ w7) (mvT hZ w2) hz (mvT hZ w5) (mvT hZ w6) (backOfS (W := w) (Q := fun v h L => Qz v h ∧ Fr n0 L) (M []) hZ w4 w3 hf hl) qa qc (g := mkF m pc Ls (asL.reverse ++ .ref a :: rest)) rfl (hls.trans C.hml.symm) (Steps.refl _) (argsL := asL) (rest := rest) (lenOf hlen hps) rfl hw' (hb C.hby hd) (fun _ _ => ⟨rfl, eT, hc, hs⟩)
    dsimp only [Pt.U, Pt.locs, Pt.cells, Pt.slots] at X' hS' hgr l1 y1 z1 st hQ
    subst l1 y1 z1
    obtain ⟨k0, hS, hk0⟩ := (B : ∃ k0, s.Since vm0 k0 ∧ k0 ≤ h.size)
    obtain ⟨s₂, o, h1, h2⟩ := H v T'.heap hQ.1 T' _ T'.vm X' ⟨_, foldS hS (by rw [eT]; exact hk0) hS' hgr, Nat.le_refl _⟩ rfl (N.app hQ.2)
    exact ⟨s₂, o, st.trans h1, h2⟩
theorem Wk.ldcS (C : Cx Z p s m meth c y bytes maxL ret) {index : Nat} {text : String} (w : (Cond.stringLink y.cls index text).before a0 Z = true) (wS : ∀ d ∈ Bundle.stringAtoms, d.before a0 Z = true) {N : Nat} (hn : 4 * text.toList.length ≤ N) (hbig : N ≤ 536870912) {pc : Nat} {Ls : Array Slot} {st : List Value} (hd : decode bytes pc = .ok (.ldc index, 2)) (hc : k + 2 ≤ R.cells) (hl : n + (N + 4) ≤ R.slots)
    (H : ∀ h' a, Ext h h' → Wk true p l e R s m args below meth c n0 Q h' (k + 2) (n + (N + 4)) (mkF m (pc + 2) Ls (.ref a :: st))) : Wk true p l e R s m args below meth c n0 Q h k n (mkF m pc Ls st) := by
  intro T L vm0 X B eT N'
  have hZ := C.wZ B
  have ho := C.wo B
  obtain ⟨k0, hS, hk0⟩ := (B : ∃ k0, s.Since vm0 k0 ∧ k0 ≤ h.size)
  obtain ⟨a, T', h', k1, X', e', E, hS', hk1, -, -, st⟩ := Jvm.RoadKit.ldcS X C.hx hZ ho w wS eT hS hk0 (g := mkF m pc Ls st) rfl (hb C.hby hd) hn hbig hc hl
  obtain ⟨s₂, o, h1, h2⟩ := H h' a E T' L T'.vm X' ⟨k1, hS', hk1⟩ e' N'
  exact ⟨s₂, o, st _ h1, h2⟩
end Rules
theorem ext_trans {h h' h'' : Heap} (E : Ext h h') (E' : Ext h' h'') : Ext h h'' := ⟨Nat.le_trans E.1 E'.1, fun a c q => E'.2 a c (E.2 a c q)⟩
theorem ext_refl (h : Heap) : Ext h h := ⟨Nat.le_refl _, fun _ _ q => q⟩
end Jvm.Own
namespace Jvm.Own
open Jvm Jvm.ClassFile Sem Op Lib Jvm.Free Jvm.Stand Jvm.LawKit Jvm.RoadKit
/-! statics that hold objects, told apart by a field -/
theorem stat_exa {args : Array Value} {s : State} {C n d K : String} (wi : (Cond.initialized C).before args s = true) (wl : (Cond.laysStatic C n d).before args s = true) (hx : (Cond.exactly (Term.static C n d) K).value args s none s [] = some true) :
    ∃ a, (Term.static C n d).eval args s none [] s = some (.ref a) ∧ Sta s s.heap C n d (.ref a) ∧ Exa s s.heap a K := by
  obtain ⟨a, ev⟩ := exa_v hx
  exact ⟨a, ev, Sta.start ev (Or.inr ⟨wi, wl⟩), Exa.start ev hx⟩
theorem fld_int {args : Array Value} {s : State} {t : Term} {a : Addr} {O f d : String} {i : Int32} (ev : t.eval args s none [] s = some (.ref a)) (hq : (Cond.eq (Term.field t O f d) (Term.int i)).value args s none s [] = some true) : Fld s s.heap a O f d (.int i) := by
  refine Fld.start ?_
  obtain ⟨x, y, h1, h2, k1, k2⟩ := cmp_v (Or.inl hq)
  cases (show some (Value.int i) = some y from h2)
  obtain ⟨z, rfl⟩ := k2
  have q := gotT (show (Cond.eq (Term.field t O f d) (Term.int i)).value args s none s [] = some (decide (z = i)) by simp [Cond.value, h1, h2]) hq
  subst q
  rw [fld_at ev] at h1; exact h1
theorem fld_uniq {Z : State} {h : Heap} {a : Addr} {O f d : String} {v w : Value} (F : Fld Z h a O f d v) (G : Fld Z h a O f d w) : v = w := by
  obtain ⟨c1, cf, k, i, fd, h1, h2, -, -, -, -, h7⟩ := F
  obtain ⟨c2, cf', k', i', fd', g1, g2, -, -, -, -, g7⟩ := G
  cases h1.symm.trans g1
  cases h2.symm.trans g2
  exact Option.some.inj (h7.symm.trans g7)
theorem ne_fld {Z : State} {h : Heap} {a b : Addr} {O f d : String} {v w : Value} (F : Fld Z h a O f d v) (G : Fld Z h b O f d w) (q : v ≠ w) : a ≠ b := fun e => by
  subst e; exact q (fld_uniq F G)
theorem mod_range (p k : Int32) (d : Int) (hd : k.toInt = d) (h0 : 0 < d) : 0 ≤ ((p &&& 2147483647) % k).toInt ∧ ((p &&& 2147483647) % k).toInt < d := by
  have h1 := (c_andS p 2147483647).2.2 (by decide)
  have h2 := (c_irem (p &&& 2147483647) k d hd).1 h1
  rw [h2]
  exact ⟨Int.emod_nonneg _ (by omega), Int.emod_lt_of_pos _ h0⟩
theorem mod6 (p : Int32) : (p &&& 2147483647) % 6 = 0 ∨ (p &&& 2147483647) % 6 = 1 ∨ (p &&& 2147483647) % 6 = 2 ∨ (p &&& 2147483647) % 6 = 3 ∨ (p &&& 2147483647) % 6 = 4 ∨ (p &&& 2147483647) % 6 = 5 := by
  have h := mod_range p 6 6 (by decide) (by decide)
  generalize (p &&& 2147483647) % 6 = r at h ⊢
  have q : r.toInt = 0 ∨ r.toInt = 1 ∨ r.toInt = 2 ∨ r.toInt = 3 ∨ r.toInt = 4 ∨ r.toInt = 5 := by omega
  rcases q with q | q | q | q | q | q
  · exact Or.inl (Int32.toInt_inj.mp q)
  · exact Or.inr (Or.inl (Int32.toInt_inj.mp q))
  · exact Or.inr (Or.inr (Or.inl (Int32.toInt_inj.mp q)))
  · exact Or.inr (Or.inr (Or.inr (Or.inl (Int32.toInt_inj.mp q))))
  · exact Or.inr (Or.inr (Or.inr (Or.inr (Or.inl (Int32.toInt_inj.mp q)))))
  · exact Or.inr (Or.inr (Or.inr (Or.inr (Or.inr (Int32.toInt_inj.mp q)))))
theorem mod3 (p : Int32) : (p &&& 2147483647) % 3 = 0 ∨ (p &&& 2147483647) % 3 = 1 ∨ (p &&& 2147483647) % 3 = 2 := by
  have h := mod_range p 3 3 (by decide) (by decide)
  generalize (p &&& 2147483647) % 3 = r at h ⊢
  have q : r.toInt = 0 ∨ r.toInt = 1 ∨ r.toInt = 2 := by omega
  rcases q with q | q | q
  · exact Or.inl (Int32.toInt_inj.mp q)
  · exact Or.inr (Or.inl (Int32.toInt_inj.mp q))
  · exact Or.inr (Or.inr (Int32.toInt_inj.mp q))
end Jvm.Own
namespace Jvm.Own
open Jvm Jvm.ClassFile Sem Op Lib Jvm.Free Jvm.Stand Jvm.LawKit Jvm.RoadKit
/-! an array by what it holds at each place -/
def up {α : Type} (f : Nat → α) (i : Nat) (v : α) : Nat → α := fun k => if k = i then v else f k
theorem up_eq {α : Type} {f : Nat → α} {i k : Nat} {v : α} (q : k = i) : up f i v k = v := by simp [up, q]
theorem up_ne {α : Type} {f : Nat → α} {i k : Nat} {v : α} (q : k ≠ i) : up f i v k = f k := by simp [up, q]
def Fa (Z : State) (h : Heap) (a : Addr) (ty : FieldType) (n : Nat) (f : Nat → Value) : Prop :=
  ∃ c : Cell, Arr Z h a c ty ∧ c.slots.size = n ∧ n < 2 ^ 31 ∧ ∀ i, i < n → c.slots[i]? = some (f i)
/-- .. of objects of the class K -/
def FaO (Z : State) (h : Heap) (a : Addr) (K : String) (n : Nat) (f : Nat → Value) : Prop :=
  ∃ c : Cell, Arr Z h a c (.object K) ∧ Ovr Z c.cls K ∧ c.slots.size = n ∧ n < 2 ^ 31 ∧ ∀ i, i < n → c.slots[i]? = some (f i)
/-- .. of arrays, whose class is named K -/
def FaA (Z : State) (h : Heap) (a : Addr) (ty : FieldType) (K : String) (n : Nat) (f : Nat → Value) : Prop :=
  ∃ c : Cell, Arr Z h a c (.array ty) ∧ OvrA Z c.cls ty K ∧ c.slots.size = n ∧ n < 2 ^ 31 ∧ ∀ i, i < n → c.slots[i]? = some (f i)
section Facts
variable {Z : State} {h h' : Heap} {a b : Addr} {ty : FieldType} {K : String} {n : Nat} {f g : Nat → Value} {sl : Nat} {v : Value} {ws : List Addr}
theorem inb {c : Cell} {j : Int32} (S : c.slots.size = n) (h0 : ¬ j < 0) (hi : j.toNatClampNeg < n) : ¬ (j < 0 ∨ c.slots.size ≤ j.toNatClampNeg) := by
  rintro (q | q)
  · exact h0 q
  · omega
theorem set_at {c : Cell} (S : c.slots.size = n) (H : ∀ i, i < n → c.slots[i]? = some (f i)) (hs : sl < n) : ∀ i, i < n → (c.setSlot sl v).slots[i]? = some (up f sl v i) := fun i hi => by
  by_cases q : i = sl
  · subst q; rw [up_eq rfl]; simp [Cell.setSlot, S, hi]
  · rw [up_ne q, ← H i hi]; exact Array.getElem?_setIfInBounds_ne (Ne.symm q)
theorem new_at {cA : ClassId} {z : Int32} : ∀ i, i < z.toNatClampNeg → (newA cA ty z).slots[i]? = some (defaultValue ty) := fun i hi => by simp [newA, hi]
theorem clamp_lt (z : Int32) : z.toNatClampNeg < 2 ^ 31 := by
  have := Int32.toInt_lt z; simp only [Int32.toNatClampNeg]; omega
theorem Fa.lt (F : Fa Z h a ty n f) : a < h.size := by obtain ⟨c, A, -⟩ := F; exact A.lt
theorem Fa.ext (F : Fa Z h a ty n f) (E : Ext h h') : Fa Z h' a ty n f := by obtain ⟨c, A, r⟩ := F; exact ⟨c, A.ext E, r⟩
theorem Fa.other (F : Fa Z h b ty n f) (W : Wr h h' a sl v) (q : b ≠ a) : Fa Z h' b ty n f := by obtain ⟨c, A, r⟩ := F; exact ⟨c, A.other W q, r⟩
theorem Fa.keep (F : Fa Z h a ty n f) (K : Keep h h' ws) (q : a ∉ ws) : Fa Z h' a ty n f := by obtain ⟨c, A, r⟩ := F; exact ⟨c, ⟨K.2.1 a c A.1 q, A.2⟩, r⟩
theorem Fa.set (F : Fa Z h a ty n f) (W : Wr h h' a sl v) (hs : sl < n) : Fa Z h' a ty n (up f sl v) := by
  obtain ⟨c, A, S, N, H⟩ := F; exact ⟨_, A.same W, (sz_set _ _ _).trans S, N, set_at S H hs⟩
theorem Fa.new {cA : ClassId} {z : Int32} (A : Arr Z h a (newA cA ty z) ty) : Fa Z h a ty z.toNatClampNeg (fun _ => defaultValue ty) := ⟨_, A, sz_new _ _ _, clamp_lt z, new_at⟩
theorem Fa.congr (F : Fa Z h a ty n f) (q : ∀ i, i < n → f i = g i) : Fa Z h a ty n g := by obtain ⟨c, A, S, N, H⟩ := F; exact ⟨c, A, S, N, fun i hi => (H i hi).trans (congrArg some (q i hi))⟩
theorem FaO.lt (F : FaO Z h a K n f) : a < h.size := by obtain ⟨c, A, -⟩ := F; exact A.lt
theorem FaO.ext (F : FaO Z h a K n f) (E : Ext h h') : FaO Z h' a K n f := by obtain ⟨c, A, r⟩ := F; exact ⟨c, A.ext E, r⟩
theorem FaO.other (F : FaO Z h b K n f) (W : Wr h h' a sl v) (q : b ≠ a) : FaO Z h' b K n f := by obtain ⟨c, A, r⟩ := F; exact ⟨c, A.other W q, r⟩
theorem FaO.set (F : FaO Z h a K n f) (W : Wr h h' a sl v) (hs : sl < n) : FaO Z h' a K n (up f sl v) := by
  obtain ⟨c, A, O, S, N, H⟩ := F; exact ⟨_, A.same W, O, (sz_set _ _ _).trans S, N, set_at S H hs⟩
theorem FaO.new {cA : ClassId} {z : Int32} (A : Arr Z h a (newA cA (.object K) z) (.object K)) (O : Ovr Z cA K) : FaO Z h a K z.toNatClampNeg (fun _ => .null) := ⟨_, A, O, sz_new _ _ _, clamp_lt z, new_at⟩
theorem FaO.sto (F : FaO Z h a K n f) {y : Addr} (E : Exa Z h y K) : Sto Z h a (.ref y) := by obtain ⟨c, A, O, -⟩ := F; exact Sto.of A O (Ins.self E)
theorem FaA.lt (F : FaA Z h a ty K n f) : a < h.size := by obtain ⟨c, A, -⟩ := F; exact A.lt
theorem FaA.ext (F : FaA Z h a ty K n f) (E : Ext h h') : FaA Z h' a ty K n f := by obtain ⟨c, A, r⟩ := F; exact ⟨c, A.ext E, r⟩
theorem FaA.other (F : FaA Z h b ty K n f) (W : Wr h h' a sl v) (q : b ≠ a) : FaA Z h' b ty K n f := by obtain ⟨c, A, r⟩ := F; exact ⟨c, A.other W q, r⟩
theorem FaA.keep (F : FaA Z h a ty K n f) (Kp : Keep h h' ws) (q : a ∉ ws) : FaA Z h' a ty K n f := by obtain ⟨c, A, r⟩ := F; exact ⟨c, ⟨Kp.2.1 a c A.1 q, A.2⟩, r⟩
theorem FaA.set (F : FaA Z h a ty K n f) (W : Wr h h' a sl v) (hs : sl < n) : FaA Z h' a ty K n (up f sl v) := by
  obtain ⟨c, A, O, S, N, H⟩ := F; exact ⟨_, A.same W, O, (sz_set _ _ _).trans S, N, set_at S H hs⟩
theorem FaA.new {cA : ClassId} {z : Int32} (A : Arr Z h a (newA cA (.array ty) z) (.array ty)) (O : OvrA Z cA ty K) : FaA Z h a ty K z.toNatClampNeg (fun _ => .null) := ⟨_, A, O, sz_new _ _ _, clamp_lt z, new_at⟩
end Facts
section Rules
variable {W : Bool} {Z : State} {p : Program} {l : Launch} {e : Env} {R : Room} {s : State} {m : MethodId} {args : Array Value} {below : List Frame} {meth : Method} {c : Code} {y : MethodName} {bytes : ByteArray} {maxL : Nat} {ret : Option FieldType} {n0 : Nat} {Q : Option Value → Heap → Prop} {h : Heap} {k n : Nat} {a0 : Array Value}
variable {a : Addr} {ty : FieldType} {K : String} {N : Nat} {f : Nat → Value} {j : Int32} {v : Value} {pc : Nat} {Ls : Array Slot} {st : List Value}
theorem Wk.fLen (C : Cx Z p s m meth c y bytes maxL ret) (F : Fa Z h a ty N f) {z : Int32} (hz : N.toInt32 = z) (hd : decode bytes pc = .ok (.arraylength, 1))
    (H : Wk W p l e R s m args below meth c n0 Q h k n (mkF m (pc + 1) Ls (.int z :: st))) : Wk W p l e R s m args below meth c n0 Q h k n (mkF m pc Ls (.ref a :: st)) := by
  obtain ⟨cl, A, S, -⟩ := F; exact Wk.len C A hd (by rw [S, hz]; exact H)
theorem Wk.fLenA (C : Cx Z p s m meth c y bytes maxL ret) (F : FaA Z h a ty K N f) {z : Int32} (hz : N.toInt32 = z) (hd : decode bytes pc = .ok (.arraylength, 1))
    (H : Wk W p l e R s m args below meth c n0 Q h k n (mkF m (pc + 1) Ls (.int z :: st))) : Wk W p l e R s m args below meth c n0 Q h k n (mkF m pc Ls (.ref a :: st)) := by
  obtain ⟨cl, A, -, S, -⟩ := F; exact Wk.len C A hd (by rw [S, hz]; exact H)
theorem Wk.fLdI (C : Cx Z p s m meth c y bytes maxL ret) (F : Fa Z h a .int N f) {i : Nat} (hj : j.toNatClampNeg = i) (h0 : ¬ j < 0) (hi : i < N) (hv : f i = v) (hd : decode bytes pc = .ok (.iaload, 1))
    (H : Wk W p l e R s m args below meth c n0 Q h k n (mkF m (pc + 1) Ls (v :: st))) : Wk W p l e R s m args below meth c n0 Q h k n (mkF m pc Ls (.int j :: .ref a :: st)) := by
  subst hj
  obtain ⟨cl, A, S, -, Hs⟩ := F; exact Wk.ldI C A (inb S h0 hi) (hv ▸ Hs _ hi) hd H
theorem Wk.fLdJ (C : Cx Z p s m meth c y bytes maxL ret) (F : Fa Z h a .long N f) {i : Nat} (hj : j.toNatClampNeg = i) (h0 : ¬ j < 0) (hi : i < N) (hv : f i = v) (hd : decode bytes pc = .ok (.laload, 1))
    (H : Wk W p l e R s m args below meth c n0 Q h k n (mkF m (pc + 1) Ls (v :: st))) : Wk W p l e R s m args below meth c n0 Q h k n (mkF m pc Ls (.int j :: .ref a :: st)) := by
  subst hj
  obtain ⟨cl, A, S, -, Hs⟩ := F; exact Wk.ldJ C A (inb S h0 hi) (hv ▸ Hs _ hi) hd H
theorem Wk.fLdZ (C : Cx Z p s m meth c y bytes maxL ret) (F : Fa Z h a .boolean N f) {i : Nat} (hj : j.toNatClampNeg = i) (h0 : ¬ j < 0) (hi : i < N) (hv : f i = v) (hd : decode bytes pc = .ok (.baload, 1))
    (H : Wk W p l e R s m args below meth c n0 Q h k n (mkF m (pc + 1) Ls (v :: st))) : Wk W p l e R s m args below meth c n0 Q h k n (mkF m pc Ls (.int j :: .ref a :: st)) := by
  subst hj
  obtain ⟨cl, A, S, -, Hs⟩ := F; exact Wk.ldZ C A (inb S h0 hi) (hv ▸ Hs _ hi) hd H
theorem Wk.fLdO (C : Cx Z p s m meth c y bytes maxL ret) (F : FaO Z h a K N f) {i : Nat} (hj : j.toNatClampNeg = i) (h0 : ¬ j < 0) (hi : i < N) (hv : f i = v) (hd : decode bytes pc = .ok (.aaload, 1))
    (H : Wk W p l e R s m args below meth c n0 Q h k n (mkF m (pc + 1) Ls (v :: st))) : Wk W p l e R s m args below meth c n0 Q h k n (mkF m pc Ls (.int j :: .ref a :: st)) := by
  subst hj
  obtain ⟨cl, A, -, S, -, Hs⟩ := F; exact Wk.ldR C A rfl (inb S h0 hi) (hv ▸ Hs _ hi) hd H
theorem Wk.fLdA (C : Cx Z p s m meth c y bytes maxL ret) (F : FaA Z h a ty K N f) {i : Nat} (hj : j.toNatClampNeg = i) (h0 : ¬ j < 0) (hi : i < N) (hv : f i = v) (hd : decode bytes pc = .ok (.aaload, 1))
    (H : Wk W p l e R s m args below meth c n0 Q h k n (mkF m (pc + 1) Ls (v :: st))) : Wk W p l e R s m args below meth c n0 Q h k n (mkF m pc Ls (.int j :: .ref a :: st)) := by
  subst hj
  obtain ⟨cl, A, -, S, -, Hs⟩ := F; exact Wk.ldR C A rfl (inb S h0 hi) (hv ▸ Hs _ hi) hd H
theorem Wk.fStI (C : Cx Z p s m meth c y bytes maxL ret) (F : Fa Z h a .int N f) {x : Int32} {i : Nat} (hj : j.toNatClampNeg = i) (h0 : ¬ j < 0) (hi : i < N) (ge : n0 ≤ a) (hd : decode bytes pc = .ok (.iastore, 1))
    (H : ∀ h', Wr h h' a i (.int x) → Fa Z h' a .int N (up f i (.int x)) → Wk W p l e R s m args below meth c n0 Q h' k n (mkF m (pc + 1) Ls st)) : Wk W p l e R s m args below meth c n0 Q h k n (mkF m pc Ls (.int x :: .int j :: .ref a :: st)) := by
  subst hj
  obtain ⟨cl, A, S, r⟩ := id F; exact Wk.stI C A (inb S h0 hi) ge hd fun h' Wh => H h' Wh (F.set Wh hi)
theorem Wk.fStJ (C : Cx Z p s m meth c y bytes maxL ret) (F : Fa Z h a .long N f) {x : Int64} {i : Nat} (hj : j.toNatClampNeg = i) (h0 : ¬ j < 0) (hi : i < N) (ge : n0 ≤ a) (hd : decode bytes pc = .ok (.lastore, 1))
    (H : ∀ h', Wr h h' a i (.long x) → Fa Z h' a .long N (up f i (.long x)) → Wk W p l e R s m args below meth c n0 Q h' k n (mkF m (pc + 1) Ls st)) : Wk W p l e R s m args below meth c n0 Q h k n (mkF m pc Ls (.long x :: .int j :: .ref a :: st)) := by
  subst hj
  obtain ⟨cl, A, S, r⟩ := id F; exact Wk.stJ C A (inb S h0 hi) ge hd fun h' Wh => H h' Wh (F.set Wh hi)
theorem Wk.fStZ (C : Cx Z p s m meth c y bytes maxL ret) (F : Fa Z h a .boolean N f) {x x' : Int32} (hx : nar .boolean x = x') {i : Nat} (hj : j.toNatClampNeg = i) (h0 : ¬ j < 0) (hi : i < N) (ge : n0 ≤ a) (hd : decode bytes pc = .ok (.bastore, 1))
    (H : ∀ h', Wr h h' a i (.int x') → Fa Z h' a .boolean N (up f i (.int x')) → Wk W p l e R s m args below meth c n0 Q h' k n (mkF m (pc + 1) Ls st)) : Wk W p l e R s m args below meth c n0 Q h k n (mkF m pc Ls (.int x :: .int j :: .ref a :: st)) := by
  subst hx
  subst hj
  obtain ⟨cl, A, S, r⟩ := id F; exact Wk.stZb C A (inb S h0 hi) ge hd fun h' Wh => H h' Wh (F.set Wh hi)
theorem Wk.fStB (C : Cx Z p s m meth c y bytes maxL ret) (F : Fa Z h a .byte N f) {x x' : Int32} (hx : nar .byte x = x') {i : Nat} (hj : j.toNatClampNeg = i) (h0 : ¬ j < 0) (hi : i < N) (ge : n0 ≤ a) (hd : decode bytes pc = .ok (.bastore, 1))
    (H : ∀ h', Wr h h' a i (.int x') → Fa Z h' a .byte N (up f i (.int x')) → Wk W p l e R s m args below meth c n0 Q h' k n (mkF m (pc + 1) Ls st)) : Wk W p l e R s m args below meth c n0 Q h k n (mkF m pc Ls (.int x :: .int j :: .ref a :: st)) := by
  subst hx
  subst hj
  obtain ⟨cl, A, S, r⟩ := id F; exact Wk.stB C A (inb S h0 hi) ge hd fun h' Wh => H h' Wh (F.set Wh hi)
theorem Wk.fStC (C : Cx Z p s m meth c y bytes maxL ret) (F : Fa Z h a .char N f) {x x' : Int32} (hx : nar .char x = x') {i : Nat} (hj : j.toNatClampNeg = i) (h0 : ¬ j < 0) (hi : i < N) (ge : n0 ≤ a) (hd : decode bytes pc = .ok (.castore, 1))
    (H : ∀ h', Wr h h' a i (.int x') → Fa Z h' a .char N (up f i (.int x')) → Wk W p l e R s m args below meth c n0 Q h' k n (mkF m (pc + 1) Ls st)) : Wk W p l e R s m args below meth c n0 Q h k n (mkF m pc Ls (.int x :: .int j :: .ref a :: st)) := by
  subst hx
  subst hj
  obtain ⟨cl, A, S, r⟩ := id F; exact Wk.stC C A (inb S h0 hi) ge hd fun h' Wh => H h' Wh (F.set Wh hi)
theorem Wk.fStO (C : Cx Z p s m meth c y bytes maxL ret) (F : FaO Z h a K N f) {i : Nat} (hj : j.toNatClampNeg = i) (h0 : ¬ j < 0) (hi : i < N) (So : Sto Z h a v) (ge : n0 ≤ a) (hd : decode bytes pc = .ok (.aastore, 1))
    (H : ∀ h', Wr h h' a i v → FaO Z h' a K N (up f i v) → Wk W p l e R s m args below meth c n0 Q h' k n (mkF m (pc + 1) Ls st)) : Wk W p l e R s m args below meth c n0 Q h k n (mkF m pc Ls (v :: .int j :: .ref a :: st)) := by
  subst hj
  obtain ⟨cl, A, O, S, r⟩ := id F; exact Wk.stR C A (inb S h0 hi) rfl So ge hd fun h' Wh => H h' Wh (F.set Wh hi)
theorem Wk.fStA (C : Cx Z p s m meth c y bytes maxL ret) (F : FaA Z h a ty K N f) {i : Nat} (hj : j.toNatClampNeg = i) (h0 : ¬ j < 0) (hi : i < N) (So : Sto Z h a v) (ge : n0 ≤ a) (hd : decode bytes pc = .ok (.aastore, 1))
    (H : ∀ h', Wr h h' a i v → FaA Z h' a ty K N (up f i v) → Wk W p l e R s m args below meth c n0 Q h' k n (mkF m (pc + 1) Ls st)) : Wk W p l e R s m args below meth c n0 Q h k n (mkF m pc Ls (v :: .int j :: .ref a :: st)) := by
  subst hj
  obtain ⟨cl, A, O, S, r⟩ := id F; exact Wk.stR C A (inb S h0 hi) rfl So ge hd fun h' Wh => H h' Wh (F.set Wh hi)
theorem Wk.fNewP (C : Cx Z p s m meth c y bytes maxL ret) {aty : ArrayType} (w : (Cond.arrayClass (newarray.typeOf aty)).before a0 Z = true) {z : Int32} {dv : Value} {ad : String} (hty : newarray.typeOf aty = ty) (hdv : defaultValue ty = dv) (hN : z.toNatClampNeg = N) (had : "[" ++ (newarray.typeOf aty).toString = ad) (hz : ¬ z < 0) {cap : Nat} (hcap : N ≤ cap) (hbig : cap * 8 ≤ 536870912) (hd : decode bytes pc = .ok (.newarray aty, 2)) (hc : k + 1 ≤ R.cells) (hl : n + cap ≤ R.slots)
    (H : ∀ h' a, a = h.size → Ext h h' → Exa Z h' a ad → Fa Z h' a ty N (fun _ => dv) → Wk W p l e R s m args below meth c n0 Q h' (k + 1) (n + cap) (mkF m (pc + 2) Ls (.ref a :: st))) :
    Wk W p l e R s m args below meth c n0 Q h k n (mkF m pc Ls (.int z :: st)) := by
  intro T L vm0 X B eT Nn
  subst hty hdv hN
  obtain ⟨T', h', cA, X', e', E, A, Ex, st⟩ := Jvm.RoadKit.newPE X C.hx (C.wZ B) w eT (g := mkF m pc Ls (.int z :: st)) rfl (hb C.hby hd) rfl hz hcap hbig hc hl had
  obtain ⟨s₂, o, h1, h2⟩ := H h' _ rfl E Ex (Fa.new A) T' L vm0 X' (B.mono E.1) e' Nn
  exact ⟨s₂, o, st _ h1, h2⟩
theorem Wk.fNewA (C : Cx Z p s m meth c y bytes maxL ret) {index : Nat} {z : Int32} {ad : String} (hK : (FieldType.array ty).toString = K) (w1 : (Cond.classLink y.cls index K).before a0 Z = true) (w2 : (Cond.arrayOver (.array ty)).before a0 Z = true) (hN : z.toNatClampNeg = N) (had : "[" ++ K = ad) (hz : ¬ z < 0) {cap : Nat} (hcap : N ≤ cap) (hbig : cap * 8 ≤ 536870912) (hd : decode bytes pc = .ok (.anewarray index, 3)) (hc : k + 1 ≤ R.cells) (hl : n + cap ≤ R.slots)
    (H : ∀ h' a, a = h.size → Ext h h' → Exa Z h' a ad → FaA Z h' a ty K N (fun _ => .null) → Wk W p l e R s m args below meth c n0 Q h' (k + 1) (n + cap) (mkF m (pc + 3) Ls (.ref a :: st))) :
    Wk W p l e R s m args below meth c n0 Q h k n (mkF m pc Ls (.int z :: st)) := by
  intro T L vm0 X B eT Nn
  subst hN
  obtain ⟨T', h', cA, X', e', E, A, Ex, O, st⟩ := Jvm.RoadKit.newRA X C.hx (C.wZ B) (C.wo B) hK w1 w2 eT (g := mkF m pc Ls (.int z :: st)) rfl (hb C.hby hd) rfl hz hcap hbig hc hl had
  obtain ⟨s₂, o, h1, h2⟩ := H h' _ rfl E Ex (FaA.new A O) T' L vm0 X' (B.mono E.1) e' Nn
  exact ⟨s₂, o, st _ h1, h2⟩
theorem Wk.fNewO (C : Cx Z p s m meth c y bytes maxL ret) {index : Nat} {z : Int32} (w1 : (Cond.classLink y.cls index K).before a0 Z = true) (w2 : (Cond.arrayOver (.object K)).before a0 Z = true) (hN : z.toNatClampNeg = N) (hz : ¬ z < 0) {cap : Nat} (hcap : N ≤ cap) (hbig : cap * 8 ≤ 536870912) (hd : decode bytes pc = .ok (.anewarray index, 3)) (hc : k + 1 ≤ R.cells) (hl : n + cap ≤ R.slots)
    (H : ∀ h' a, a = h.size → Ext h h' → FaO Z h' a K N (fun _ => .null) → Wk W p l e R s m args below meth c n0 Q h' (k + 1) (n + cap) (mkF m (pc + 3) Ls (.ref a :: st))) :
    Wk W p l e R s m args below meth c n0 Q h k n (mkF m pc Ls (.int z :: st)) := by
  subst hN
  exact Wk.newR C w1 w2 hz hcap hbig hd hc hl fun h' a cA g E A O => H h' a g E (FaO.new A O)
theorem FaA.sto {f : Nat → Value} (F : FaA Z h a ty K N f) {b : Addr} (E : Exa Z h b K) : Sto Z h a (.ref b) := by obtain ⟨c, A, O, -⟩ := F; exact Sto.ofVA A rfl O (Ins.self E)
end Rules
end Jvm.Own
namespace Jvm.Own
theorem nm0 {a : Nat} : a ∉ ([] : List Nat) := by simp
theorem nmS {a b : Nat} {ws : List Nat} (h : a ≠ b) (t : a ∉ ws) : a ∉ b :: ws := by simp [h, t]
theorem nv0 {P : Nat → Prop} : ∀ x ∈ ([] : List Nat), P x := fun _ q => nomatch q
theorem nvS {P : Nat → Prop} {b : Nat} {ws : List Nat} (h : P b) (t : ∀ x ∈ ws, P x) : ∀ x ∈ b :: ws, P x := fun x q => (List.mem_cons.mp q).elim (fun e => e ▸ h) (t x)
end Jvm.Own
namespace Jvm.Own
open Jvm Jvm.ClassFile Sem Op Lib Jvm.Free Jvm.Stand Jvm.LawKit Jvm.RoadKit
theorem dupX2 {tb : Tables} [Ours tb] {e : Env} {below : List Frame} {T target : State} {m : MethodId} {c : Code} {g : JFrame} (h : At T m c below) (hx : tb.exec = Jvm.exec) (hg : g.method = m) {x y z : Value} {rest : List Value} (hd : decode c.code g.pc = .ok (.dup_x2, 1)) (hs : g.stack = x :: y :: z :: rest) (hc : x.category = 1) (hc2 : y.category = 1) (hc3 : z.category = 1)
    (hr : Steps tb e below (T.setTop { g with pc := g.pc + 1, stack := x :: y :: z :: x :: rest }) target) : Steps tb e below (T.setTop g) target := by
  subst hg
  jvm_step h [h.top, hx, hd, hs, hc, hc2, hc3, dup_x2.wp_sem]
  exact hr
end Jvm.Own
namespace Jvm.Own
open Jvm Jvm.ClassFile Sem Op Lib Jvm.Free Jvm.Stand Jvm.LawKit Jvm.RoadKit
theorem fld_known {Z : State} {h : Heap} {a : Addr} {C n d : String} {v : Value} (F : Fld Z h a C n d v) : ∃ cell : Cell, h[a]? = some cell ∧ cell.vm ≠ .unknown := by
  obtain ⟨cell, _, _, _, _, h1, -, -, h4, -⟩ := F; exact ⟨cell, h1, h4⟩
end Jvm.Own
namespace Jvm.Pilot.@@N@@
open Jvm Jvm.ClassFile Sem Op Lib Jvm.Free Jvm.Stand Jvm.LawKit Jvm.RoadKit Bundle Jvm.Own Jvm.Pilot.@@N@@.Jvm.D
theorem pn_0 : plainName "com/example/ample_queue/amplequeue/protocol/Frame" = true := by first | (simp [plainName, overriddenIn]; done) | decide +kernel
theorem pn_1 : plainName "java/lang/StringLatin1" = true := by first | (simp [plainName, overriddenIn]; done) | decide +kernel
theorem pn_2 : plainName "java/lang/String" = true := by first | (simp [plainName, overriddenIn]; done) | decide +kernel
theorem pn_3 : plainName "java/util/AbstractMap" = true := by first | (simp [plainName, overriddenIn]; done) | decide +kernel
theorem pn_4 : plainName "java/util/HashMap" = true := by first | (simp [plainName, overriddenIn]; done) | decide +kernel
theorem pn_5 : plainName "java/util/LinkedHashMap" = true := by first | (simp [plainName, overriddenIn]; done) | decide +kernel
theorem pn_6 : plainName "java/util/Objects" = true := by first | (simp [plainName, overriddenIn]; done) | decide +kernel
theorem pn_7 : plainName "com/example/ample_queue/amplequeue/protocol/FrameIsOnewayPinLaw" = true := by first | (simp [plainName, overriddenIn]; done) | decide +kernel
theorem pd_0 : parseMethodDescriptor "(C)Ljava/lang/String;" = some ⟨[.char], some (.object "java/lang/String")⟩ := by decide +kernel
theorem pd_1 : parseMethodDescriptor "(C)Z" = some ⟨[.char], some .boolean⟩ := by decide +kernel
theorem pd_2 : parseMethodDescriptor "(C)[B" = some ⟨[.char], some (.array .byte)⟩ := by decide +kernel
theorem pd_3 : parseMethodDescriptor "([BB)V" = some ⟨[(.array .byte), .byte], none⟩ := by decide +kernel
theorem pd_4 : parseMethodDescriptor "(ILjava/lang/String;IIILjava/lang/String;)V" = some ⟨[.int, (.object "java/lang/String"), .int, .int, .int, (.object "java/lang/String")], none⟩ := by decide +kernel
theorem pd_5 : parseMethodDescriptor "()V" = some ⟨[], none⟩ := by decide +kernel
theorem pd_6 : parseMethodDescriptor "(Ljava/lang/Object;Ljava/lang/String;)Ljava/lang/Object;" = some ⟨[(.object "java/lang/Object"), (.object "java/lang/String")], some (.object "java/lang/Object")⟩ := by decide +kernel
theorem pd_7 : parseMethodDescriptor "()Z" = some ⟨[], some .boolean⟩ := by decide +kernel
theorem own_wS {a0 : Array Value} {Z : State} (hw : ∀ d ∈ tables_1, d.before a0 Z = true) : ∀ d ∈ Bundle.stringAtoms, d.before a0 Z = true := by
  intro d hd
  simp only [Bundle.stringAtoms, List.mem_cons, List.not_mem_nil, or_false] at hd
  rcases hd with rfl | rfl | rfl | rfl | rfl | rfl | rfl
  · exact (hw _ (List.mem_of_getElem? (i := 2) rfl))
  · exact (hw _ (List.mem_of_getElem? (i := 10) rfl))
  · exact (hw _ (List.mem_of_getElem? (i := 14) rfl))
  · exact (hw _ (List.mem_of_getElem? (i := 23) rfl))
  · exact (hw _ (List.mem_of_getElem? (i := 25) rfl))
  · exact (hw _ (List.mem_of_getElem? (i := 71) rfl))
  · exact (hw _ (List.mem_of_getElem? (i := 72) rfl))
theorem lat (x : Int32) : ¬ (255 : Int32) < ((x &&& (255 : Int32)).toUInt32.toUInt16.toUInt32.toInt32) := by
  rw [Int32.lt_iff_toInt_lt]
  have h1 := c_i2c (x &&& (255 : Int32))
  have h2 := c_mask x 255 8 (by decide) (by decide)
  have e : (255 : Int32).toInt = 255 := rfl
  omega
theorem bit1 (f : Int32) : (((f.toUInt32 >>> ((1 : Int32) &&& 31).toUInt32).toInt32) &&& (1 : Int32)) = (1 : Int32) ↔ ¬ f &&& (2 : Int32) = (0 : Int32) := by
  have key : ∀ b : BitVec 32, ((b >>> 1) &&& 1#32 = 1#32) ↔ ¬ (b &&& 2#32 = 0#32) := by
    intro b
    have h1 : (b >>> 1) &&& 1#32 = if b.getLsbD 1 then 1#32 else 0#32 := by
      apply BitVec.eq_of_getLsbD_eq; intro i hi
      rcases Nat.lt_or_ge i 1 with q | q
      · have : i = 0 := by omega
        subst this; cases hb : b.getLsbD 1 <;> simp [hb] <;> exact hb
      · have e1 : (1#32).getLsbD i = false := by simp [BitVec.getLsbD_one]; omega
        cases hb : b.getLsbD 1 <;> simp [e1]
    have h2 : b &&& 2#32 = if b.getLsbD 1 then 2#32 else 0#32 := by
      apply BitVec.eq_of_getLsbD_eq; intro i hi
      by_cases q : i = 1
      · subst q; cases hb : b.getLsbD 1 <;> simp [hb] <;> exact hb
      · have e1 : (2#32).getLsbD i = false := by
          rw [show (2#32) = BitVec.twoPow 32 1 from rfl, BitVec.getLsbD_twoPow]; simp; omega
        cases hb : b.getLsbD 1 <;> simp [e1]
    rw [h1, h2]; cases b.getLsbD 1 <;> decide
  have e1 : (((f.toUInt32 >>> ((1 : Int32) &&& 31).toUInt32).toInt32) &&& (1 : Int32)).toBitVec = (f.toBitVec >>> 1) &&& 1#32 := rfl
  have e2 : (f &&& (2 : Int32)).toBitVec = f.toBitVec &&& 2#32 := rfl
  rw [← Int32.toBitVec_inj, ← Int32.toBitVec_inj, e1, e2]
  exact key f.toBitVec
theorem d11_0 : decode prog_41_method_13_code 0 = .ok (.aload_n 0, 1) := by decide +kernel
theorem d11_1 : decode prog_41_method_13_code 1 = .ok (.getfield 52, 3) := by decide +kernel
theorem d11_4 : decode prog_41_method_13_code 4 = .ok (.iconst 2, 1) := by decide +kernel
theorem d11_5 : decode prog_41_method_13_code 5 = .ok (.iand, 1) := by decide +kernel
theorem d11_6 : decode prog_41_method_13_code 6 = .ok (.ifCond .eq 7, 3) := by decide +kernel
theorem d11_9 : decode prog_41_method_13_code 9 = .ok (.iconst 1, 1) := by decide +kernel
theorem d11_10 : decode prog_41_method_13_code 10 = .ok (.goto 4, 3) := by decide +kernel
theorem d11_13 : decode prog_41_method_13_code 13 = .ok (.iconst 0, 1) := by decide +kernel
theorem d11_14 : decode prog_41_method_13_code 14 = .ok (.ireturn, 1) := by decide +kernel
set_option maxRecDepth 65536 in
set_option maxHeartbeats 40000000 in
theorem own_iso (l : Launch) (Z : State) (a0 : Array Value) (hw : ∀ d ∈ tables_1, d.before a0 Z = true) (n0 : Nat) (h0 : Heap) (o : Addr) (f : Int32) (FF : Fld Z h0 o "com/example/ample_queue/amplequeue/protocol/Frame" "flag" "I" (.int f)) :
    Met true l Z n0 (⟨"com/example/ample_queue/amplequeue/protocol/Frame", "isOneway", "()Z"⟩ : MethodName) prog_41_method_13_code 1 (some .boolean) ({ frames := 0, cells := 0, slots := 0, locals := 0 } : Room) #[(.ref o)] h0 (fun v h => v = some (.int (if f &&& (2 : Int32) = (0 : Int32) then (0 : Int32) else (1 : Int32))) ∧ h0 = h) := by
  refine Met.of pn_0 #[.val (.ref o)] (fun m => by first | (simp [entryFrame, mkF, argsToLocals, Value.category]; done) | rfl) ?_
  intro p e s m below meth c C
  refine Wk.st (g' := (mkF m 1 #[.val (.ref o)] [(.ref o)])) (fun X t q => XS.aloadN X.here C.hx rfl (hb C.hby d11_0) rfl rfl q) ?_
  refine Wk.getF C (hw _ (List.mem_of_getElem? (i := 84) rfl)) Via.refl FF d11_1 ?_
  show Wk _ p l e _ s m _ below meth c n0 _ h0 0 0 (mkF m 4 #[.val (.ref o)] [(.int f)])
  refine Wk.st (g' := (mkF m 5 #[.val (.ref o)] [(.int (2 : Int32)), (.int f)])) (fun X t q => XS.iconst X.here C.hx rfl (hb C.hby d11_4) q) ?_
  refine Wk.st (g' := (mkF m 6 #[.val (.ref o)] [(.int (f &&& (2 : Int32)))])) (fun X t q => XS.iand X.here C.hx rfl (hb C.hby d11_5) rfl q) ?_
  by_cases hb1 : (f &&& (2 : Int32)) = (0 : Int32)
  · skip
    refine Wk.st (g' := (mkF m 13 #[.val (.ref o)] [])) (fun X t q => XS.ifYes X.here C.hx rfl (pc0 := 6) (pc' := 13) rfl (hb C.hby d11_6) rfl (XT.i0_eq_t hb1) (by decide) (by decide) q) ?_
    refine Wk.st (g' := (mkF m 14 #[.val (.ref o)] [(.int (0 : Int32))])) (fun X t q => XS.iconst X.here C.hx rfl (hb C.hby d11_13) q) ?_
    exact Wk.retV C (t := .boolean) rfl rfl (Or.inl ⟨rfl, by simp, _, rfl⟩) d11_14 (by decide) (by decide) ⟨by rw [if_pos hb1], rfl⟩
  · skip
    refine Wk.st (g' := (mkF m 9 #[.val (.ref o)] [])) (fun X t q => XS.ifNo X.here C.hx rfl (hb C.hby d11_6) rfl (XT.i0_eq_f hb1) q) ?_
    refine Wk.st (g' := (mkF m 10 #[.val (.ref o)] [(.int (1 : Int32))])) (fun X t q => XS.iconst X.here C.hx rfl (hb C.hby d11_9) q) ?_
    refine Wk.st (g' := (mkF m 14 #[.val (.ref o)] [(.int (1 : Int32))])) (fun X t q => XS.goto X.here C.hx rfl (pc0 := 10) (pc' := 14) rfl (hb C.hby d11_10) (by decide) (by decide) q) ?_
    exact Wk.retV C (t := .boolean) rfl rfl (Or.inl ⟨rfl, by simp, _, rfl⟩) d11_14 (by decide) (by decide) ⟨by rw [if_neg hb1], rfl⟩
theorem d2_0 : decode jdk_43_method_3_code 0 = .ok (.iload_n 0, 1) := by decide +kernel
theorem d2_1 : decode jdk_43_method_3_code 1 = .ok (.sipush 255, 3) := by decide +kernel
theorem d2_4 : decode jdk_43_method_3_code 4 = .ok (.if_icmp .gt 7, 3) := by decide +kernel
theorem d2_7 : decode jdk_43_method_3_code 7 = .ok (.iconst 1, 1) := by decide +kernel
theorem d2_8 : decode jdk_43_method_3_code 8 = .ok (.goto 4, 3) := by decide +kernel
theorem d2_11 : decode jdk_43_method_3_code 11 = .ok (.iconst 0, 1) := by decide +kernel
theorem d2_12 : decode jdk_43_method_3_code 12 = .ok (.ireturn, 1) := by decide +kernel
set_option maxRecDepth 65536 in
set_option maxHeartbeats 40000000 in
theorem own_2_1 (l : Launch) (Z : State) (a0 : Array Value) (hw : ∀ d ∈ tables_1, d.before a0 Z = true) (n0 : Nat) (h0 : Heap) (hsz : n0 ≤ h0.size) (o0 : Addr) (x0 : Int32) (x1 : Int32) (P0 : Sta Z h0 "java/lang/String" "COMPACT_STRINGS" "Z" (.int x1)) (P1 : Sta Z h0 "com/example/ample_queue/amplequeue/protocol/HeaderEncoding" "JSON" "Lcom/example/ample_queue/amplequeue/protocol/HeaderEncoding;" (.ref o0)) (hl : ¬ (255 : Int32) < x0) :
    Met true l Z n0 (⟨"java/lang/StringLatin1", "canEncode", "(C)Z"⟩ : MethodName) jdk_43_method_3_code 1 (some .boolean) ({ frames := 0, cells := 0, slots := 0, locals := 0 } : Room) #[(.int x0)] h0 (fun v h => v = some (.int (1 : Int32)) ∧ h0 = h) := by
  refine Met.of pn_1 #[.val (.int x0)] (fun m => by first | (simp [entryFrame, mkF, argsToLocals, Value.category]; done) | rfl) ?_
  intro p e s m below meth c C
  refine Wk.st (g' := (mkF m 1 #[.val (.int x0)] [(.int x0)])) (fun X t q => XS.iloadN X.here C.hx rfl (hb C.hby d2_0) rfl q) ?_
  refine Wk.st (g' := (mkF m 4 #[.val (.int x0)] [(.int (255 : Int32)), (.int x0)])) (fun X t q => XS.sipush X.here C.hx rfl (hb C.hby d2_1) q) ?_
  refine Wk.st (g' := (mkF m 7 #[.val (.int x0)] [])) (fun X t q => XS.icmpNo X.here C.hx rfl (hb C.hby d2_4) rfl (XT.ii_gt_f hl) q) ?_
  refine Wk.st (g' := (mkF m 8 #[.val (.int x0)] [(.int (1 : Int32))])) (fun X t q => XS.iconst X.here C.hx rfl (hb C.hby d2_7) q) ?_
  refine Wk.st (g' := (mkF m 12 #[.val (.int x0)] [(.int (1 : Int32))])) (fun X t q => XS.goto X.here C.hx rfl (pc0 := 8) (pc' := 12) rfl (hb C.hby d2_8) (by decide) (by decide) q) ?_
  exact Wk.retV C (t := .boolean) rfl rfl (Or.inl ⟨rfl, by simp, _, rfl⟩) d2_12 (by decide) (by decide) ⟨rfl, rfl⟩
theorem d3_0 : decode jdk_43_method_46_code 0 = .ok (.iconst 1, 1) := by decide +kernel
theorem d3_1 : decode jdk_43_method_46_code 1 = .ok (.newarray .byte, 2) := by decide +kernel
theorem d3_3 : decode jdk_43_method_46_code 3 = .ok (.dup, 1) := by decide +kernel
theorem d3_4 : decode jdk_43_method_46_code 4 = .ok (.iconst 0, 1) := by decide +kernel
theorem d3_5 : decode jdk_43_method_46_code 5 = .ok (.iload_n 0, 1) := by decide +kernel
theorem d3_6 : decode jdk_43_method_46_code 6 = .ok (.i2b, 1) := by decide +kernel
theorem d3_7 : decode jdk_43_method_46_code 7 = .ok (.bastore, 1) := by decide +kernel
theorem d3_8 : decode jdk_43_method_46_code 8 = .ok (.areturn, 1) := by decide +kernel
set_option maxRecDepth 65536 in
set_option maxHeartbeats 40000000 in
theorem own_3_2 (l : Launch) (Z : State) (a0 : Array Value) (hw : ∀ d ∈ tables_1, d.before a0 Z = true) (n0 : Nat) (h0 : Heap) (hsz : n0 ≤ h0.size) (o0 : Addr) (x0 : Int32) (x1 : Int32) (P0 : Sta Z h0 "java/lang/String" "COMPACT_STRINGS" "Z" (.int x1)) (P1 : Sta Z h0 "com/example/ample_queue/amplequeue/protocol/HeaderEncoding" "JSON" "Lcom/example/ample_queue/amplequeue/protocol/HeaderEncoding;" (.ref o0)) :
    Met true l Z n0 (⟨"java/lang/StringLatin1", "toBytes", "(C)[B"⟩ : MethodName) jdk_43_method_46_code 1 (some (.array .byte)) ({ frames := 0, cells := 1, slots := 1, locals := 0 } : Room) #[(.int x0)] h0 (fun v h => ∃ b2 : Addr, v = some (.ref b2) ∧ Keep h0 h [] ∧ h0.size ≤ b2 ∧ Sta Z h "java/lang/String" "COMPACT_STRINGS" "Z" (.int x1) ∧ Sta Z h "com/example/ample_queue/amplequeue/protocol/HeaderEncoding" "JSON" "Lcom/example/ample_queue/amplequeue/protocol/HeaderEncoding;" (.ref o0) ∧ Exa Z h b2 "[B" ∧ Fa Z h b2 .byte 1 (up (fun _ => (.int (0 : Int32))) 0 (.int (nar .byte (x0.toInt8.toInt32))))) := by
  refine Met.of pn_1 #[.val (.int x0)] (fun m => by first | (simp [entryFrame, mkF, argsToLocals, Value.category]; done) | rfl) ?_
  intro p e s m below meth c C
  refine Wk.st (g' := (mkF m 1 #[.val (.int x0)] [(.int (1 : Int32))])) (fun X t q => XS.iconst X.here C.hx rfl (hb C.hby d3_0) q) ?_
  refine Wk.fNewP C (hw _ (List.mem_of_getElem? (i := 14) rfl)) (ty := .byte) (dv := (.int (0 : Int32))) (N := 1) (ad := "[B") rfl rfl (by decide) (by decide) (by decide) (cap := 1) (by decide) (by decide) d3_1 (by decide) (by decide) ?_
  intro h1 b2 g3 E4 A5 F6
  have ge7 : n0 ≤ b2 := Nat.le_trans hsz (Nat.le_of_eq g3.symm)
  have gz8 : h0.size ≤ b2 := Nat.le_trans (Nat.le_refl h0.size) (Nat.le_of_eq g3.symm)
  have F9 : Sta Z h1 "java/lang/String" "COMPACT_STRINGS" "Z" (.int x1) := P0.ext E4
  have F10 : Sta Z h1 "com/example/ample_queue/amplequeue/protocol/HeaderEncoding" "JSON" "Lcom/example/ample_queue/amplequeue/protocol/HeaderEncoding;" (.ref o0) := P1.ext E4
  have sz11 : n0 ≤ h1.size := Nat.le_trans hsz E4.1
  have sy12 : h0.size ≤ h1.size := Nat.le_trans (Nat.le_refl h0.size) E4.1
  have K13 := (Keep.refl h0 []).ext E4
  show Wk _ p l e _ s m _ below meth c n0 _ h1 1 1 (mkF m 3 #[.val (.int x0)] [(.ref b2)])
  refine Wk.st (g' := (mkF m 4 #[.val (.int x0)] [(.ref b2), (.ref b2)])) (fun X t q => XS.dup X.here C.hx rfl (hb C.hby d3_3) rfl rfl q) ?_
  refine Wk.st (g' := (mkF m 5 #[.val (.int x0)] [(.int (0 : Int32)), (.ref b2), (.ref b2)])) (fun X t q => XS.iconst X.here C.hx rfl (hb C.hby d3_4) q) ?_
  refine Wk.st (g' := (mkF m 6 #[.val (.int x0)] [(.int x0), (.int (0 : Int32)), (.ref b2), (.ref b2)])) (fun X t q => XS.iloadN X.here C.hx rfl (hb C.hby d3_5) rfl q) ?_
  refine Wk.st (g' := (mkF m 7 #[.val (.int x0)] [(.int (x0.toInt8.toInt32)), (.int (0 : Int32)), (.ref b2), (.ref b2)])) (fun X t q => XS.i2b X.here C.hx rfl (hb C.hby d3_6) rfl q) ?_
  refine Wk.fStB C F6 (x' := (nar .byte (x0.toInt8.toInt32))) rfl (i := 0) (by decide) (by decide) (by decide) ge7 d3_7 ?_
  intro h14 W15 F16
  have F17 : Sta Z h14 "java/lang/String" "COMPACT_STRINGS" "Z" (.int x1) := F9.wr W15
  have F18 : Sta Z h14 "com/example/ample_queue/amplequeue/protocol/HeaderEncoding" "JSON" "Lcom/example/ample_queue/amplequeue/protocol/HeaderEncoding;" (.ref o0) := F10.wr W15
  have F19 : Exa Z h14 b2 "[B" := A5.wr W15
  have sz20 : n0 ≤ h14.size := Nat.le_trans sz11 (Nat.le_of_eq W15.size.symm)
  have sy21 : h0.size ≤ h14.size := Nat.le_trans sy12 (Nat.le_of_eq W15.size.symm)
  have K22 := K13.wr W15 (Or.inr gz8)
  show Wk _ p l e _ s m _ below meth c n0 _ h14 1 1 (mkF m 8 #[.val (.int x0)] [(.ref b2)])
  exact Wk.retV C (t := (.array .byte)) rfl rfl (Or.inr (Or.inr (Or.inr (Or.inr ⟨rfl, rfl, rfl⟩)))) d3_8 (by decide) (by decide) ⟨b2, rfl, K22, gz8, F17, F18, F19, F16⟩
theorem d4_0 : decode jdk_42_method_151_code 0 = .ok (.aload_n 0, 1) := by decide +kernel
theorem d4_1 : decode jdk_42_method_151_code 1 = .ok (.invokespecial 1, 3) := by decide +kernel
theorem d4_4 : decode jdk_42_method_151_code 4 = .ok (.aload_n 0, 1) := by decide +kernel
theorem d4_5 : decode jdk_42_method_151_code 5 = .ok (.aload_n 1, 1) := by decide +kernel
theorem d4_6 : decode jdk_42_method_151_code 6 = .ok (.putfield 9, 3) := by decide +kernel
theorem d4_9 : decode jdk_42_method_151_code 9 = .ok (.aload_n 0, 1) := by decide +kernel
theorem d4_10 : decode jdk_42_method_151_code 10 = .ok (.iload_n 2, 1) := by decide +kernel
theorem d4_11 : decode jdk_42_method_151_code 11 = .ok (.putfield 15, 3) := by decide +kernel
theorem d4_14 : decode jdk_42_method_151_code 14 = .ok (.return_, 1) := by decide +kernel
set_option maxRecDepth 65536 in
set_option maxHeartbeats 40000000 in
theorem own_4_3 (l : Launch) (Z : State) (a0 : Array Value) (hw : ∀ d ∈ tables_1, d.before a0 Z = true) (n0 : Nat) (h0 : Heap) (hsz : n0 ≤ h0.size) (o0 : Addr) (o1 : Addr) (o2 : Addr) (x0 : Int32) (x1 : Int32) (P0 : Exa Z h0 o0 "java/lang/String") (P1 : Fld Z h0 o0 "java/lang/String" "value" "[B" .null) (P2 : Fld Z h0 o0 "java/lang/String" "coder" "B" (.int (0 : Int32))) (P3 : Sta Z h0 "java/lang/String" "COMPACT_STRINGS" "Z" (.int x0)) (P4 : Sta Z h0 "com/example/ample_queue/amplequeue/protocol/HeaderEncoding" "JSON" "Lcom/example/ample_queue/amplequeue/protocol/HeaderEncoding;" (.ref o2)) (P5 : Exa Z h0 o1 "[B") (P6 : Fa Z h0 o1 .byte 1 (up (fun _ => (.int (0 : Int32))) 0 (.int x1))) (N_o0_o1 : o0 ≠ o1) (G_o0 : n0 ≤ o0) (G_o1 : n0 ≤ o1) :
    Met true l Z n0 (⟨"java/lang/String", "<init>", "([BB)V"⟩ : MethodName) jdk_42_method_151_code 3 none ({ frames := 1, cells := 0, slots := 0, locals := 12 } : Room) #[(.ref o0), (.ref o1), (.int (0 : Int32))] h0 (fun v h => v = none ∧ Keep h0 h [o0] ∧ Sta Z h "java/lang/String" "COMPACT_STRINGS" "Z" (.int x0) ∧ Sta Z h "com/example/ample_queue/amplequeue/protocol/HeaderEncoding" "JSON" "Lcom/example/ample_queue/amplequeue/protocol/HeaderEncoding;" (.ref o2) ∧ Fld Z h o0 "java/lang/String" "value" "[B" (.ref o1) ∧ Fld Z h o0 "java/lang/String" "coder" "B" (.int (0 : Int32))) := by
  refine Met.of pn_2 #[.val (.ref o0), .val (.ref o1), .val (.int (0 : Int32))] (fun m => by first | (simp [entryFrame, mkF, argsToLocals, Value.category]; done) | rfl) ?_
  intro p e s m below meth c C
  refine Wk.st (g' := (mkF m 1 #[.val (.ref o0), .val (.ref o1), .val (.int (0 : Int32))] [(.ref o0)])) (fun X t q => XS.aloadN X.here C.hx rfl (hb C.hby d4_0) rfl rfl q) ?_
  refine Wk.initO C (hw _ (List.mem_of_getElem? (i := 19) rfl)) (hw _ (List.mem_of_getElem? (i := 20) rfl)) (hw _ (List.mem_of_getElem? (i := 21) rfl)) (w := 0) rfl d4_1 (by decide) (Nat.le_of_eq rfl) (by decide) ?_
  show Wk _ p l e _ s m _ below meth c n0 _ h0 0 0 (mkF m 4 #[.val (.ref o0), .val (.ref o1), .val (.int (0 : Int32))] [])
  refine Wk.st (g' := (mkF m 5 #[.val (.ref o0), .val (.ref o1), .val (.int (0 : Int32))] [(.ref o0)])) (fun X t q => XS.aloadN X.here C.hx rfl (hb C.hby d4_4) rfl rfl q) ?_
  refine Wk.st (g' := (mkF m 6 #[.val (.ref o0), .val (.ref o1), .val (.int (0 : Int32))] [(.ref o1), (.ref o0)])) (fun X t q => XS.aloadN X.here C.hx rfl (hb C.hby d4_5) rfl rfl q) ?_
  refine Wk.putF C (hw _ (List.mem_of_getElem? (i := 22) rfl)) Via.refl P1 P0 (Or.inr ⟨(hw _ (List.mem_of_getElem? (i := 23) rfl)), rfl, rfl⟩) (hw _ (List.mem_of_getElem? (i := 10) rfl)) (ty := (.array .byte)) (by decide) (v' := (.ref o1)) rfl rfl G_o0 d4_6 ?_
  intro h1 W2
  have F3 : Fld Z h1 o0 "java/lang/String" "value" "[B" (.ref o1) := P1.same W2
  have F4 : Exa Z h1 o0 "java/lang/String" := P0.wr W2
  have F5 : Fld Z h1 o0 "java/lang/String" "coder" "B" (.int (0 : Int32)) := P2.other W2 (Or.inr (slot_ne (Or.inr (hw _ (List.mem_of_getElem? (i := 25) rfl))) (Or.inr (hw _ (List.mem_of_getElem? (i := 23) rfl))) (by decide) (t := .byte) (t' := (.array .byte)) (by decide) (by decide)))
  have F6 : Sta Z h1 "java/lang/String" "COMPACT_STRINGS" "Z" (.int x0) := P3.wr W2
  have F7 : Sta Z h1 "com/example/ample_queue/amplequeue/protocol/HeaderEncoding" "JSON" "Lcom/example/ample_queue/amplequeue/protocol/HeaderEncoding;" (.ref o2) := P4.wr W2
  have F8 : Exa Z h1 o1 "[B" := P5.wr W2
  have F9 : Fa Z h1 o1 .byte 1 (up (fun _ => (.int (0 : Int32))) 0 (.int x1)) := P6.other W2 (Ne.symm N_o0_o1)
  have sz10 : n0 ≤ h1.size := Nat.le_trans hsz (Nat.le_of_eq W2.size.symm)
  have sy11 : h0.size ≤ h1.size := Nat.le_trans (Nat.le_refl h0.size) (Nat.le_of_eq W2.size.symm)
  have K12 := (Keep.refl h0 [o0]).wr W2 (Or.inl (by simp))
  show Wk _ p l e _ s m _ below meth c n0 _ h1 0 0 (mkF m 9 #[.val (.ref o0), .val (.ref o1), .val (.int (0 : Int32))] [])
  refine Wk.st (g' := (mkF m 10 #[.val (.ref o0), .val (.ref o1), .val (.int (0 : Int32))] [(.ref o0)])) (fun X t q => XS.aloadN X.here C.hx rfl (hb C.hby d4_9) rfl rfl q) ?_
  refine Wk.st (g' := (mkF m 11 #[.val (.ref o0), .val (.ref o1), .val (.int (0 : Int32))] [(.int (0 : Int32)), (.ref o0)])) (fun X t q => XS.iloadN X.here C.hx rfl (hb C.hby d4_10) rfl q) ?_
  refine Wk.putF C (hw _ (List.mem_of_getElem? (i := 24) rfl)) Via.refl F5 F4 (Or.inr ⟨(hw _ (List.mem_of_getElem? (i := 25) rfl)), rfl, rfl⟩) (hw _ (List.mem_of_getElem? (i := 10) rfl)) (ty := .byte) (by decide) (v' := (.int (0 : Int32))) rfl (by decide) G_o0 d4_11 ?_
  intro h13 W14
  have F15 : Fld Z h13 o0 "java/lang/String" "coder" "B" (.int (0 : Int32)) := F5.same W14
  have F16 : Exa Z h13 o0 "java/lang/String" := F4.wr W14
  have F17 : Sta Z h13 "java/lang/String" "COMPACT_STRINGS" "Z" (.int x0) := F6.wr W14
  have F18 : Sta Z h13 "com/example/ample_queue/amplequeue/protocol/HeaderEncoding" "JSON" "Lcom/example/ample_queue/amplequeue/protocol/HeaderEncoding;" (.ref o2) := F7.wr W14
  have F19 : Exa Z h13 o1 "[B" := F8.wr W14
  have F20 : Fa Z h13 o1 .byte 1 (up (fun _ => (.int (0 : Int32))) 0 (.int x1)) := F9.other W14 (Ne.symm N_o0_o1)
  have F21 : Fld Z h13 o0 "java/lang/String" "value" "[B" (.ref o1) := F3.other W14 (Or.inr (slot_ne (Or.inr (hw _ (List.mem_of_getElem? (i := 23) rfl))) (Or.inr (hw _ (List.mem_of_getElem? (i := 25) rfl))) (by decide) (t := (.array .byte)) (t' := .byte) (by decide) (by decide)))
  have sz22 : n0 ≤ h13.size := Nat.le_trans sz10 (Nat.le_of_eq W14.size.symm)
  have sy23 : h0.size ≤ h13.size := Nat.le_trans sy11 (Nat.le_of_eq W14.size.symm)
  have K24 := K12.wr W14 (Or.inl (by simp))
  show Wk _ p l e _ s m _ below meth c n0 _ h13 0 0 (mkF m 14 #[.val (.ref o0), .val (.ref o1), .val (.int (0 : Int32))] [])
  exact Wk.retN0 C rfl d4_14 (by decide) (by decide) ⟨rfl, K24, F17, F18, F21, F15⟩
theorem d1_0 : decode jdk_42_method_139_code 0 = .ok (.getstatic 38, 3) := by decide +kernel
theorem d1_3 : decode jdk_42_method_139_code 3 = .ok (.ifCond .eq 23, 3) := by decide +kernel
theorem d1_6 : decode jdk_42_method_139_code 6 = .ok (.iload_n 0, 1) := by decide +kernel
theorem d1_7 : decode jdk_42_method_139_code 7 = .ok (.invokestatic 1015, 3) := by decide +kernel
theorem d1_10 : decode jdk_42_method_139_code 10 = .ok (.ifCond .eq 16, 3) := by decide +kernel
theorem d1_13 : decode jdk_42_method_139_code 13 = .ok (.new 10, 3) := by decide +kernel
theorem d1_16 : decode jdk_42_method_139_code 16 = .ok (.dup, 1) := by decide +kernel
theorem d1_17 : decode jdk_42_method_139_code 17 = .ok (.iload_n 0, 1) := by decide +kernel
theorem d1_18 : decode jdk_42_method_139_code 18 = .ok (.invokestatic 1018, 3) := by decide +kernel
theorem d1_21 : decode jdk_42_method_139_code 21 = .ok (.iconst 0, 1) := by decide +kernel
theorem d1_22 : decode jdk_42_method_139_code 22 = .ok (.invokespecial 209, 3) := by decide +kernel
theorem d1_25 : decode jdk_42_method_139_code 25 = .ok (.areturn, 1) := by decide +kernel
theorem d1_26 : decode jdk_42_method_139_code 26 = .ok (.new 10, 3) := by decide +kernel
theorem d1_29 : decode jdk_42_method_139_code 29 = .ok (.dup, 1) := by decide +kernel
theorem d1_30 : decode jdk_42_method_139_code 30 = .ok (.iload_n 0, 1) := by decide +kernel
theorem d1_31 : decode jdk_42_method_139_code 31 = .ok (.invokestatic 1021, 3) := by decide +kernel
theorem d1_34 : decode jdk_42_method_139_code 34 = .ok (.iconst 1, 1) := by decide +kernel
theorem d1_35 : decode jdk_42_method_139_code 35 = .ok (.invokespecial 209, 3) := by decide +kernel
theorem d1_38 : decode jdk_42_method_139_code 38 = .ok (.areturn, 1) := by decide +kernel
set_option maxRecDepth 65536 in
set_option maxHeartbeats 40000000 in
theorem own_1_1 (l : Launch) (Z : State) (a0 : Array Value) (hw : ∀ d ∈ tables_1, d.before a0 Z = true) (n0 : Nat) (h0 : Heap) (hsz : n0 ≤ h0.size) (o0 : Addr) (x0 : Int32) (x1 : Int32) (P0 : Sta Z h0 "java/lang/String" "COMPACT_STRINGS" "Z" (.int x1)) (P1 : Sta Z h0 "com/example/ample_queue/amplequeue/protocol/HeaderEncoding" "JSON" "Lcom/example/ample_queue/amplequeue/protocol/HeaderEncoding;" (.ref o0)) (hl : ¬ (255 : Int32) < x0) (hc : ¬ x1 = (0 : Int32)) :
    Met true l Z n0 (⟨"java/lang/String", "valueOf", "(C)Ljava/lang/String;"⟩ : MethodName) jdk_42_method_139_code 1 (some (.object "java/lang/String")) ({ frames := 2, cells := 2, slots := 5, locals := 27 } : Room) #[(.int x0)] h0 (fun v h => ∃ b6 : Addr, ∃ n20_b2 : Addr, v = some (.ref b6) ∧ Keep h0 h [] ∧ h0.size ≤ b6 ∧ h0.size ≤ n20_b2 ∧ b6 ≠ n20_b2 ∧ Exa Z h b6 "java/lang/String" ∧ Exa Z h n20_b2 "[B" ∧ Fa Z h n20_b2 .byte 1 (up (fun _ => (.int (0 : Int32))) 0 (.int (nar .byte (x0.toInt8.toInt32)))) ∧ Sta Z h "java/lang/String" "COMPACT_STRINGS" "Z" (.int x1) ∧ Sta Z h "com/example/ample_queue/amplequeue/protocol/HeaderEncoding" "JSON" "Lcom/example/ample_queue/amplequeue/protocol/HeaderEncoding;" (.ref o0) ∧ Fld Z h b6 "java/lang/String" "value" "[B" (.ref n20_b2) ∧ Fld Z h b6 "java/lang/String" "coder" "B" (.int (0 : Int32))) := by
  refine Met.of pn_2 #[.val (.int x0)] (fun m => by first | (simp [entryFrame, mkF, argsToLocals, Value.category]; done) | rfl) ?_
  intro p e s m below meth c C
  refine Wk.getS C (hw _ (List.mem_of_getElem? (i := 4) rfl)) P0 d1_0 ?_
  show Wk _ p l e _ s m _ below meth c n0 _ h0 0 0 (mkF m 3 #[.val (.int x0)] [(.int x1)])
  refine Wk.st (g' := (mkF m 6 #[.val (.int x0)] [])) (fun X t q => XS.ifNo X.here C.hx rfl (hb C.hby d1_3) rfl (XT.i0_eq_f hc) q) ?_
  refine Wk.st (g' := (mkF m 7 #[.val (.int x0)] [(.int x0)])) (fun X t q => XS.iloadN X.here C.hx rfl (hb C.hby d1_6) rfl q) ?_
  refine Wk.callS C (z := (⟨"java/lang/StringLatin1", "canEncode", "(C)Z"⟩ : MethodName)) (hw _ (List.mem_of_getElem? (i := 5) rfl)) (hw _ (List.mem_of_getElem? (i := 6) rfl)) (hw _ (List.mem_of_getElem? (i := 7) rfl)) (hw _ (List.mem_of_getElem? (i := 8) rfl)) (by decide) (own_2_1 l Z a0 hw n0 h0 hsz o0 x0 x1 P0 P1   hl) (w := 0) (by decide) (by decide) pd_1 rfl (rest := []) rfl rfl (Nat.le_of_eq rfl) (by decide) (by decide) d1_7 ?_
  rintro _ _ ⟨rfl, rfl⟩
  show Wk _ p l e _ s m _ below meth c n0 _ h0 0 0 (mkF m 10 #[.val (.int x0)] [(.int (1 : Int32))])
  refine Wk.st (g' := (mkF m 13 #[.val (.int x0)] [])) (fun X t q => XS.ifNo X.here C.hx rfl (hb C.hby d1_10) rfl (XT.i0_eq_f (by decide)) q) ?_
  refine Wk.newO C (hw _ (List.mem_of_getElem? (i := 9) rfl)) (hw _ (List.mem_of_getElem? (i := 10) rfl)) (hw _ (List.mem_of_getElem? (i := 2) rfl)) d1_13 (by decide) (by decide) ?_
  intro h5 b6 g7 E8 A9 D10
  have ge11 : n0 ≤ b6 := Nat.le_trans hsz (Nat.le_of_eq g7.symm)
  have gz12 : h0.size ≤ b6 := Nat.le_trans (Nat.le_refl h0.size) (Nat.le_of_eq g7.symm)
  have F13 : Sta Z h5 "java/lang/String" "COMPACT_STRINGS" "Z" (.int x1) := P0.ext E8
  have F14 : Sta Z h5 "com/example/ample_queue/amplequeue/protocol/HeaderEncoding" "JSON" "Lcom/example/ample_queue/amplequeue/protocol/HeaderEncoding;" (.ref o0) := P1.ext E8
  have sz15 : n0 ≤ h5.size := Nat.le_trans hsz E8.1
  have sy16 : h0.size ≤ h5.size := Nat.le_trans (Nat.le_refl h0.size) E8.1
  have K17 := (Keep.refl h0 []).ext E8
  have F18 : Fld Z h5 b6 "java/lang/String" "value" "[B" .null := D10 (Or.inr (hw _ (List.mem_of_getElem? (i := 23) rfl))) (ty := (.array .byte)) (by decide)
  have F19 : Fld Z h5 b6 "java/lang/String" "coder" "B" (.int (0 : Int32)) := D10 (Or.inr (hw _ (List.mem_of_getElem? (i := 25) rfl))) (ty := .byte) (by decide)
  show Wk _ p l e _ s m _ below meth c n0 _ h5 1 4 (mkF m 16 #[.val (.int x0)] [(.ref b6)])
  refine Wk.st (g' := (mkF m 17 #[.val (.int x0)] [(.ref b6), (.ref b6)])) (fun X t q => XS.dup X.here C.hx rfl (hb C.hby d1_16) rfl rfl q) ?_
  refine Wk.st (g' := (mkF m 18 #[.val (.int x0)] [(.int x0), (.ref b6), (.ref b6)])) (fun X t q => XS.iloadN X.here C.hx rfl (hb C.hby d1_17) rfl q) ?_
  refine Wk.callS C (z := (⟨"java/lang/StringLatin1", "toBytes", "(C)[B"⟩ : MethodName)) (hw _ (List.mem_of_getElem? (i := 11) rfl)) (hw _ (List.mem_of_getElem? (i := 12) rfl)) (hw _ (List.mem_of_getElem? (i := 7) rfl)) (hw _ (List.mem_of_getElem? (i := 13) rfl)) (by decide) (own_3_2 l Z a0 hw n0 h5 sz15 o0 x0 x1 F13 F14  ) (w := 2) (by decide) (by decide) pd_2 rfl (rest := [(.ref b6), (.ref b6)]) rfl rfl (Nat.le_of_eq rfl) (by decide) (by decide) d1_18 ?_
  rintro _ h21 ⟨n20_b2, rfl, K22, gn27, F23, F24, F25, F26⟩
  show Wk _ p l e _ s m _ below meth c n0 _ h21 2 5 (mkF m 21 #[.val (.int x0)] [(.ref n20_b2), (.ref b6), (.ref b6)])
  have ne28 : b6 ≠ n20_b2 := Nat.ne_of_lt (Nat.lt_of_lt_of_le A9.lt gn27)
  have ge29 : n0 ≤ n20_b2 := Nat.le_trans sz15 gn27
  have gz30 : h0.size ≤ n20_b2 := Nat.le_trans sy16 gn27
  have F31 : Exa Z h21 b6 "java/lang/String" := A9.keep K22
  have F32 : Fld Z h21 b6 "java/lang/String" "value" "[B" .null := F18.keep K22 nm0
  have F33 : Fld Z h21 b6 "java/lang/String" "coder" "B" (.int (0 : Int32)) := F19.keep K22 nm0
  have sz34 : n0 ≤ h21.size := Nat.le_trans sz15 K22.1
  have K35 := K17.trans K22 nv0
  have sy36 : h0.size ≤ h21.size := Nat.le_trans sy16 K22.1
  refine Wk.st (g' := (mkF m 22 #[.val (.int x0)] [(.int (0 : Int32)), (.ref n20_b2), (.ref b6), (.ref b6)])) (fun X t q => XS.iconst X.here C.hx rfl (hb C.hby d1_21) q) ?_
  refine Wk.callI C (z := (⟨"java/lang/String", "<init>", "([BB)V"⟩ : MethodName)) rfl (hw _ (List.mem_of_getElem? (i := 15) rfl)) (hw _ (List.mem_of_getElem? (i := 16) rfl)) (hw _ (List.mem_of_getElem? (i := 2) rfl)) (hw _ (List.mem_of_getElem? (i := 18) rfl)) (by decide) (own_4_3 l Z a0 hw n0 h21 sz34 b6 n20_b2 o0 x1 (nar .byte (x0.toInt8.toInt32)) F31 F32 F33 F23 F24 F25 F26 ne28 ge11 ge29) (w := 1) (by decide) (by decide) pd_3 rfl (rest := [(.ref b6)]) rfl rfl (Nat.le_of_eq rfl) (by decide) (by decide) d1_22 ?_
  rintro _ h38 ⟨rfl, K39, F40, F41, F42, F43⟩
  show Wk _ p l e _ s m _ below meth c n0 _ h38 2 5 (mkF m 25 #[.val (.int x0)] [(.ref b6)])
  have F44 : Exa Z h38 b6 "java/lang/String" := F31.keep K39
  have F45 : Exa Z h38 n20_b2 "[B" := F25.keep K39
  have F46 : Fa Z h38 n20_b2 .byte 1 (up (fun _ => (.int (0 : Int32))) 0 (.int (nar .byte (x0.toInt8.toInt32)))) := F26.keep K39 (nmS (Ne.symm ne28) nm0)
  have sz47 : n0 ≤ h38.size := Nat.le_trans sz34 K39.1
  have K48 := K35.trans K39 (nvS (Or.inr gz12) nv0)
  have sy49 : h0.size ≤ h38.size := Nat.le_trans sy36 K39.1
  exact Wk.retV C (t := (.object "java/lang/String")) rfl rfl (Or.inr (Or.inr (Or.inr (Or.inr ⟨rfl, rfl, rfl⟩)))) d1_25 (by decide) (by decide) ⟨b6, n20_b2, rfl, K48, gz12, gz30, ne28, F44, F45, F46, F40, F41, F42, F43⟩
theorem d9_0 : decode jdk_71_method_1_code 0 = .ok (.aload_n 0, 1) := by decide +kernel
theorem d9_1 : decode jdk_71_method_1_code 1 = .ok (.invokespecial 1, 3) := by decide +kernel
theorem d9_4 : decode jdk_71_method_1_code 4 = .ok (.return_, 1) := by decide +kernel
set_option maxRecDepth 65536 in
set_option maxHeartbeats 40000000 in
theorem own_9_5 (l : Launch) (Z : State) (a0 : Array Value) (hw : ∀ d ∈ tables_1, d.before a0 Z = true) (n0 : Nat) (h0 : Heap) (hsz : n0 ≤ h0.size) (o0 : Addr) (o1 : Addr) (x0 : Int32) (P0 : Sta Z h0 "java/lang/String" "COMPACT_STRINGS" "Z" (.int x0)) (P1 : Sta Z h0 "com/example/ample_queue/amplequeue/protocol/HeaderEncoding" "JSON" "Lcom/example/ample_queue/amplequeue/protocol/HeaderEncoding;" (.ref o1)) (P2 : Exa Z h0 o0 "java/util/LinkedHashMap") (P3 : Fld Z h0 o0 "java/util/HashMap" "loadFactor" "F" (.float 0)) (P4 : Fld Z h0 o0 "java/util/LinkedHashMap" "putMode" "I" (.int (0 : Int32))) (P5 : Fld Z h0 o0 "java/util/LinkedHashMap" "accessOrder" "Z" (.int (0 : Int32))) (G_o0 : n0 ≤ o0) :
    Met true l Z n0 (⟨"java/util/AbstractMap", "<init>", "()V"⟩ : MethodName) jdk_71_method_1_code 1 none ({ frames := 1, cells := 0, slots := 0, locals := 12 } : Room) #[(.ref o0)] h0 (fun v h => v = none ∧ h0 = h) := by
  refine Met.of pn_3 #[.val (.ref o0)] (fun m => by first | (simp [entryFrame, mkF, argsToLocals, Value.category]; done) | rfl) ?_
  intro p e s m below meth c C
  refine Wk.st (g' := (mkF m 1 #[.val (.ref o0)] [(.ref o0)])) (fun X t q => XS.aloadN X.here C.hx rfl (hb C.hby d9_0) rfl rfl q) ?_
  refine Wk.initO C (hw _ (List.mem_of_getElem? (i := 51) rfl)) (hw _ (List.mem_of_getElem? (i := 20) rfl)) (hw _ (List.mem_of_getElem? (i := 21) rfl)) (w := 0) rfl d9_1 (by decide) (Nat.le_of_eq rfl) (by decide) ?_
  show Wk _ p l e _ s m _ below meth c n0 _ h0 0 0 (mkF m 4 #[.val (.ref o0)] [])
  exact Wk.retN0 C rfl d9_4 (by decide) (by decide) ⟨rfl, rfl⟩
theorem d8_0 : decode jdk_69_method_7_code 0 = .ok (.aload_n 0, 1) := by decide +kernel
theorem d8_1 : decode jdk_69_method_7_code 1 = .ok (.invokespecial 43, 3) := by decide +kernel
theorem d8_4 : decode jdk_69_method_7_code 4 = .ok (.aload_n 0, 1) := by decide +kernel
theorem d8_5 : decode jdk_69_method_7_code 5 = .ok (.ldc 92, 2) := by decide +kernel
theorem d8_7 : decode jdk_69_method_7_code 7 = .ok (.putfield 81, 3) := by decide +kernel
theorem d8_10 : decode jdk_69_method_7_code 10 = .ok (.return_, 1) := by decide +kernel
set_option maxRecDepth 65536 in
set_option maxHeartbeats 40000000 in
theorem own_8_5 (l : Launch) (Z : State) (a0 : Array Value) (hw : ∀ d ∈ tables_1, d.before a0 Z = true) (n0 : Nat) (h0 : Heap) (hsz : n0 ≤ h0.size) (o0 : Addr) (o1 : Addr) (x0 : Int32) (P0 : Sta Z h0 "java/lang/String" "COMPACT_STRINGS" "Z" (.int x0)) (P1 : Sta Z h0 "com/example/ample_queue/amplequeue/protocol/HeaderEncoding" "JSON" "Lcom/example/ample_queue/amplequeue/protocol/HeaderEncoding;" (.ref o1)) (P2 : Exa Z h0 o0 "java/util/LinkedHashMap") (P3 : Fld Z h0 o0 "java/util/HashMap" "loadFactor" "F" (.float 0)) (P4 : Fld Z h0 o0 "java/util/LinkedHashMap" "putMode" "I" (.int (0 : Int32))) (P5 : Fld Z h0 o0 "java/util/LinkedHashMap" "accessOrder" "Z" (.int (0 : Int32))) (G_o0 : n0 ≤ o0) :
    Met true l Z n0 (⟨"java/util/HashMap", "<init>", "()V"⟩ : MethodName) jdk_69_method_7_code 1 none ({ frames := 2, cells := 0, slots := 0, locals := 24 } : Room) #[(.ref o0)] h0 (fun v h => v = none ∧ Keep h0 h [o0] ∧ Sta Z h "java/lang/String" "COMPACT_STRINGS" "Z" (.int x0) ∧ Sta Z h "com/example/ample_queue/amplequeue/protocol/HeaderEncoding" "JSON" "Lcom/example/ample_queue/amplequeue/protocol/HeaderEncoding;" (.ref o1) ∧ Fld Z h o0 "java/util/LinkedHashMap" "putMode" "I" (.int (0 : Int32)) ∧ Fld Z h o0 "java/util/LinkedHashMap" "accessOrder" "Z" (.int (0 : Int32)) ∧ Fld Z h o0 "java/util/HashMap" "loadFactor" "F" (.float (1061158912 : UInt32))) := by
  refine Met.of pn_4 #[.val (.ref o0)] (fun m => by first | (simp [entryFrame, mkF, argsToLocals, Value.category]; done) | rfl) ?_
  intro p e s m below meth c C
  refine Wk.st (g' := (mkF m 1 #[.val (.ref o0)] [(.ref o0)])) (fun X t q => XS.aloadN X.here C.hx rfl (hb C.hby d8_0) rfl rfl q) ?_
  refine Wk.callI C (z := (⟨"java/util/AbstractMap", "<init>", "()V"⟩ : MethodName)) rfl (hw _ (List.mem_of_getElem? (i := 45) rfl)) (hw _ (List.mem_of_getElem? (i := 46) rfl)) (hw _ (List.mem_of_getElem? (i := 49) rfl)) (hw _ (List.mem_of_getElem? (i := 50) rfl)) (by decide) (own_9_5 l Z a0 hw n0 h0 hsz o0 o1 x0 P0 P1 P2 P3 P4 P5  G_o0) (w := 0) (by decide) (by decide) pd_5 rfl (rest := []) rfl rfl (Nat.le_of_eq rfl) (by decide) (by decide) d8_1 ?_
  rintro _ _ ⟨rfl, rfl⟩
  show Wk _ p l e _ s m _ below meth c n0 _ h0 0 0 (mkF m 4 #[.val (.ref o0)] [])
  refine Wk.st (g' := (mkF m 5 #[.val (.ref o0)] [(.ref o0)])) (fun X t q => XS.aloadN X.here C.hx rfl (hb C.hby d8_4) rfl rfl q) ?_
  refine Wk.ldcF C (hw _ (List.mem_of_getElem? (i := 52) rfl)) d8_5 ?_
  show Wk _ p l e _ s m _ below meth c n0 _ h0 0 0 (mkF m 7 #[.val (.ref o0)] [(.float (1061158912 : UInt32)), (.ref o0)])
  refine Wk.putF C (hw _ (List.mem_of_getElem? (i := 53) rfl)) Via.refl P3 P2 (Or.inr ⟨(hw _ (List.mem_of_getElem? (i := 54) rfl)), rfl, rfl⟩) (hw _ (List.mem_of_getElem? (i := 34) rfl)) (ty := .float) (by decide) (v' := (.float (1061158912 : UInt32))) rfl rfl G_o0 d8_7 ?_
  intro h5 W6
  have F7 : Fld Z h5 o0 "java/util/HashMap" "loadFactor" "F" (.float (1061158912 : UInt32)) := P3.same W6
  have F8 : Sta Z h5 "java/lang/String" "COMPACT_STRINGS" "Z" (.int x0) := P0.wr W6
  have F9 : Sta Z h5 "com/example/ample_queue/amplequeue/protocol/HeaderEncoding" "JSON" "Lcom/example/ample_queue/amplequeue/protocol/HeaderEncoding;" (.ref o1) := P1.wr W6
  have F10 : Exa Z h5 o0 "java/util/LinkedHashMap" := P2.wr W6
  have F11 : Fld Z h5 o0 "java/util/LinkedHashMap" "putMode" "I" (.int (0 : Int32)) := P4.other W6 (Or.inr (slot_ne (Or.inl (hw _ (List.mem_of_getElem? (i := 56) rfl))) (Or.inr (hw _ (List.mem_of_getElem? (i := 54) rfl))) (by decide) (t := .int) (t' := .float) (by decide) (by decide)))
  have F12 : Fld Z h5 o0 "java/util/LinkedHashMap" "accessOrder" "Z" (.int (0 : Int32)) := P5.other W6 (Or.inr (slot_ne (Or.inr (hw _ (List.mem_of_getElem? (i := 58) rfl))) (Or.inr (hw _ (List.mem_of_getElem? (i := 54) rfl))) (by decide) (t := .boolean) (t' := .float) (by decide) (by decide)))
  have sz13 : n0 ≤ h5.size := Nat.le_trans hsz (Nat.le_of_eq W6.size.symm)
  have sy14 : h0.size ≤ h5.size := Nat.le_trans (Nat.le_refl h0.size) (Nat.le_of_eq W6.size.symm)
  have K15 := (Keep.refl h0 [o0]).wr W6 (Or.inl (by simp))
  show Wk _ p l e _ s m _ below meth c n0 _ h5 0 0 (mkF m 10 #[.val (.ref o0)] [])
  exact Wk.retN0 C rfl d8_10 (by decide) (by decide) ⟨rfl, K15, F8, F9, F11, F12, F7⟩
theorem d7_0 : decode jdk_94_method_16_code 0 = .ok (.aload_n 0, 1) := by decide +kernel
theorem d7_1 : decode jdk_94_method_16_code 1 = .ok (.invokespecial 87, 3) := by decide +kernel
theorem d7_4 : decode jdk_94_method_16_code 4 = .ok (.aload_n 0, 1) := by decide +kernel
theorem d7_5 : decode jdk_94_method_16_code 5 = .ok (.iconst 0, 1) := by decide +kernel
theorem d7_6 : decode jdk_94_method_16_code 6 = .ok (.putfield 1, 3) := by decide +kernel
theorem d7_9 : decode jdk_94_method_16_code 9 = .ok (.aload_n 0, 1) := by decide +kernel
theorem d7_10 : decode jdk_94_method_16_code 10 = .ok (.iconst 0, 1) := by decide +kernel
theorem d7_11 : decode jdk_94_method_16_code 11 = .ok (.putfield 64, 3) := by decide +kernel
theorem d7_14 : decode jdk_94_method_16_code 14 = .ok (.return_, 1) := by decide +kernel
set_option maxRecDepth 65536 in
set_option maxHeartbeats 40000000 in
theorem own_7_5 (l : Launch) (Z : State) (a0 : Array Value) (hw : ∀ d ∈ tables_1, d.before a0 Z = true) (n0 : Nat) (h0 : Heap) (hsz : n0 ≤ h0.size) (o0 : Addr) (o1 : Addr) (x0 : Int32) (P0 : Sta Z h0 "java/lang/String" "COMPACT_STRINGS" "Z" (.int x0)) (P1 : Sta Z h0 "com/example/ample_queue/amplequeue/protocol/HeaderEncoding" "JSON" "Lcom/example/ample_queue/amplequeue/protocol/HeaderEncoding;" (.ref o1)) (P2 : Exa Z h0 o0 "java/util/LinkedHashMap") (P3 : Fld Z h0 o0 "java/util/HashMap" "loadFactor" "F" (.float 0)) (P4 : Fld Z h0 o0 "java/util/LinkedHashMap" "putMode" "I" (.int (0 : Int32))) (P5 : Fld Z h0 o0 "java/util/LinkedHashMap" "accessOrder" "Z" (.int (0 : Int32))) (G_o0 : n0 ≤ o0) :
    Met true l Z n0 (⟨"java/util/LinkedHashMap", "<init>", "()V"⟩ : MethodName) jdk_94_method_16_code 1 none ({ frames := 3, cells := 0, slots := 0, locals := 36 } : Room) #[(.ref o0)] h0 (fun v h => v = none ∧ Keep h0 h [o0] ∧ Sta Z h "java/lang/String" "COMPACT_STRINGS" "Z" (.int x0) ∧ Sta Z h "com/example/ample_queue/amplequeue/protocol/HeaderEncoding" "JSON" "Lcom/example/ample_queue/amplequeue/protocol/HeaderEncoding;" (.ref o1) ∧ Fld Z h o0 "java/util/HashMap" "loadFactor" "F" (.float (1061158912 : UInt32)) ∧ Fld Z h o0 "java/util/LinkedHashMap" "putMode" "I" (.int (0 : Int32)) ∧ Fld Z h o0 "java/util/LinkedHashMap" "accessOrder" "Z" (.int (0 : Int32))) := by
  refine Met.of pn_5 #[.val (.ref o0)] (fun m => by first | (simp [entryFrame, mkF, argsToLocals, Value.category]; done) | rfl) ?_
  intro p e s m below meth c C
  refine Wk.st (g' := (mkF m 1 #[.val (.ref o0)] [(.ref o0)])) (fun X t q => XS.aloadN X.here C.hx rfl (hb C.hby d7_0) rfl rfl q) ?_
  refine Wk.callI C (z := (⟨"java/util/HashMap", "<init>", "()V"⟩ : MethodName)) rfl (hw _ (List.mem_of_getElem? (i := 39) rfl)) (hw _ (List.mem_of_getElem? (i := 40) rfl)) (hw _ (List.mem_of_getElem? (i := 43) rfl)) (hw _ (List.mem_of_getElem? (i := 44) rfl)) (by decide) (own_8_5 l Z a0 hw n0 h0 hsz o0 o1 x0 P0 P1 P2 P3 P4 P5  G_o0) (w := 0) (by decide) (by decide) pd_5 rfl (rest := []) rfl rfl (Nat.le_of_eq rfl) (by decide) (by decide) d7_1 ?_
  rintro _ h2 ⟨rfl, K3, F4, F5, F6, F7, F8⟩
  show Wk _ p l e _ s m _ below meth c n0 _ h2 0 0 (mkF m 4 #[.val (.ref o0)] [])
  have F9 : Exa Z h2 o0 "java/util/LinkedHashMap" := P2.keep K3
  have sz10 : n0 ≤ h2.size := Nat.le_trans hsz K3.1
  have K11 := (Keep.refl h0 [o0]).trans K3 (nvS (Or.inl (by simp)) nv0)
  have sy12 : h0.size ≤ h2.size := Nat.le_trans (Nat.le_refl h0.size) K3.1
  refine Wk.st (g' := (mkF m 5 #[.val (.ref o0)] [(.ref o0)])) (fun X t q => XS.aloadN X.here C.hx rfl (hb C.hby d7_4) rfl rfl q) ?_
  refine Wk.st (g' := (mkF m 6 #[.val (.ref o0)] [(.int (0 : Int32)), (.ref o0)])) (fun X t q => XS.iconst X.here C.hx rfl (hb C.hby d7_5) q) ?_
  refine Wk.putF C (hw _ (List.mem_of_getElem? (i := 55) rfl)) Via.refl F6 F9 (Or.inl (hw _ (List.mem_of_getElem? (i := 56) rfl))) (hw _ (List.mem_of_getElem? (i := 34) rfl)) (ty := .int) (by decide) (v' := (.int (0 : Int32))) rfl rfl G_o0 d7_6 ?_
  intro h13 W14
  have F15 : Fld Z h13 o0 "java/util/LinkedHashMap" "putMode" "I" (.int (0 : Int32)) := F6.same W14
  have F16 : Exa Z h13 o0 "java/util/LinkedHashMap" := F9.wr W14
  have F17 : Sta Z h13 "java/lang/String" "COMPACT_STRINGS" "Z" (.int x0) := F4.wr W14
  have F18 : Sta Z h13 "com/example/ample_queue/amplequeue/protocol/HeaderEncoding" "JSON" "Lcom/example/ample_queue/amplequeue/protocol/HeaderEncoding;" (.ref o1) := F5.wr W14
  have F19 : Fld Z h13 o0 "java/util/LinkedHashMap" "accessOrder" "Z" (.int (0 : Int32)) := F7.other W14 (Or.inr (slot_ne (Or.inr (hw _ (List.mem_of_getElem? (i := 58) rfl))) (Or.inl (hw _ (List.mem_of_getElem? (i := 56) rfl))) (by decide) (t := .boolean) (t' := .int) (by decide) (by decide)))
  have F20 : Fld Z h13 o0 "java/util/HashMap" "loadFactor" "F" (.float (1061158912 : UInt32)) := F8.other W14 (Or.inr (slot_ne (Or.inr (hw _ (List.mem_of_getElem? (i := 54) rfl))) (Or.inl (hw _ (List.mem_of_getElem? (i := 56) rfl))) (by decide) (t := .float) (t' := .int) (by decide) (by decide)))
  have sz21 : n0 ≤ h13.size := Nat.le_trans sz10 (Nat.le_of_eq W14.size.symm)
  have sy22 : h0.size ≤ h13.size := Nat.le_trans sy12 (Nat.le_of_eq W14.size.symm)
  have K23 := K11.wr W14 (Or.inl (by simp))
  show Wk _ p l e _ s m _ below meth c n0 _ h13 0 0 (mkF m 9 #[.val (.ref o0)] [])
  refine Wk.st (g' := (mkF m 10 #[.val (.ref o0)] [(.ref o0)])) (fun X t q => XS.aloadN X.here C.hx rfl (hb C.hby d7_9) rfl rfl q) ?_
  refine Wk.st (g' := (mkF m 11 #[.val (.ref o0)] [(.int (0 : Int32)), (.ref o0)])) (fun X t q => XS.iconst X.here C.hx rfl (hb C.hby d7_10) q) ?_
  refine Wk.putF C (hw _ (List.mem_of_getElem? (i := 57) rfl)) Via.refl F19 F16 (Or.inr ⟨(hw _ (List.mem_of_getElem? (i := 58) rfl)), rfl, rfl⟩) (hw _ (List.mem_of_getElem? (i := 34) rfl)) (ty := .boolean) (by decide) (v' := (.int (0 : Int32))) rfl (by decide) G_o0 d7_11 ?_
  intro h24 W25
  have F26 : Fld Z h24 o0 "java/util/LinkedHashMap" "accessOrder" "Z" (.int (0 : Int32)) := F19.same W25
  have F27 : Exa Z h24 o0 "java/util/LinkedHashMap" := F16.wr W25
  have F28 : Sta Z h24 "java/lang/String" "COMPACT_STRINGS" "Z" (.int x0) := F17.wr W25
  have F29 : Sta Z h24 "com/example/ample_queue/amplequeue/protocol/HeaderEncoding" "JSON" "Lcom/example/ample_queue/amplequeue/protocol/HeaderEncoding;" (.ref o1) := F18.wr W25
  have F30 : Fld Z h24 o0 "java/util/HashMap" "loadFactor" "F" (.float (1061158912 : UInt32)) := F20.other W25 (Or.inr (slot_ne (Or.inr (hw _ (List.mem_of_getElem? (i := 54) rfl))) (Or.inr (hw _ (List.mem_of_getElem? (i := 58) rfl))) (by decide) (t := .float) (t' := .boolean) (by decide) (by decide)))
  have F31 : Fld Z h24 o0 "java/util/LinkedHashMap" "putMode" "I" (.int (0 : Int32)) := F15.other W25 (Or.inr (slot_ne (Or.inl (hw _ (List.mem_of_getElem? (i := 56) rfl))) (Or.inr (hw _ (List.mem_of_getElem? (i := 58) rfl))) (by decide) (t := .int) (t' := .boolean) (by decide) (by decide)))
  have sz32 : n0 ≤ h24.size := Nat.le_trans sz21 (Nat.le_of_eq W25.size.symm)
  have sy33 : h0.size ≤ h24.size := Nat.le_trans sy22 (Nat.le_of_eq W25.size.symm)
  have K34 := K23.wr W25 (Or.inl (by simp))
  show Wk _ p l e _ s m _ below meth c n0 _ h24 0 0 (mkF m 14 #[.val (.ref o0)] [])
  exact Wk.retN0 C rfl d7_14 (by decide) (by decide) ⟨rfl, K34, F28, F29, F30, F31, F26⟩
theorem d10_0 : decode jdk_31_method_11_code 0 = .ok (.aload_n 0, 1) := by decide +kernel
theorem d10_1 : decode jdk_31_method_11_code 1 = .ok (.ifnonnull 12, 3) := by decide +kernel
theorem d10_4 : decode jdk_31_method_11_code 4 = .ok (.new 84, 3) := by decide +kernel
theorem d10_7 : decode jdk_31_method_11_code 7 = .ok (.dup, 1) := by decide +kernel
theorem d10_8 : decode jdk_31_method_11_code 8 = .ok (.aload_n 1, 1) := by decide +kernel
theorem d10_9 : decode jdk_31_method_11_code 9 = .ok (.invokespecial 87, 3) := by decide +kernel
theorem d10_12 : decode jdk_31_method_11_code 12 = .ok (.athrow, 1) := by decide +kernel
theorem d10_13 : decode jdk_31_method_11_code 13 = .ok (.aload_n 0, 1) := by decide +kernel
theorem d10_14 : decode jdk_31_method_11_code 14 = .ok (.areturn, 1) := by decide +kernel
set_option maxRecDepth 65536 in
set_option maxHeartbeats 40000000 in
theorem own_10_8 (l : Launch) (Z : State) (a0 : Array Value) (hw : ∀ d ∈ tables_1, d.before a0 Z = true) (n0 : Nat) (h0 : Heap) (hsz : n0 ≤ h0.size) (o0 : Addr) (o1 : Addr) (o2 : Addr) (o3 : Addr) (x0 : Int32) (x1 : Int32) (P0 : Exa Z h0 o0 "java/lang/String") (P1 : Exa Z h0 o2 "[B") (P2 : Fa Z h0 o2 .byte 1 (up (fun _ => (.int (0 : Int32))) 0 (.int x0))) (P3 : Fld Z h0 o0 "java/lang/String" "value" "[B" (.ref o2)) (P4 : Fld Z h0 o0 "java/lang/String" "coder" "B" (.int (0 : Int32))) (P5 : Sta Z h0 "java/lang/String" "COMPACT_STRINGS" "Z" (.int x1)) (P6 : Sta Z h0 "com/example/ample_queue/amplequeue/protocol/HeaderEncoding" "JSON" "Lcom/example/ample_queue/amplequeue/protocol/HeaderEncoding;" (.ref o3)) (N_o0_o2 : o0 ≠ o2) (G_o0 : n0 ≤ o0) (G_o2 : n0 ≤ o2) :
    Met true l Z n0 (⟨"java/util/Objects", "requireNonNull", "(Ljava/lang/Object;Ljava/lang/String;)Ljava/lang/Object;"⟩ : MethodName) jdk_31_method_11_code 2 (some (.object "java/lang/Object")) ({ frames := 0, cells := 0, slots := 0, locals := 0 } : Room) #[(.ref o0), (.ref o1)] h0 (fun v h => v = some (.ref o0) ∧ h0 = h) := by
  refine Met.of pn_6 #[.val (.ref o0), .val (.ref o1)] (fun m => by first | (simp [entryFrame, mkF, argsToLocals, Value.category]; done) | rfl) ?_
  intro p e s m below meth c C
  refine Wk.st (g' := (mkF m 1 #[.val (.ref o0), .val (.ref o1)] [(.ref o0)])) (fun X t q => XS.aloadN X.here C.hx rfl (hb C.hby d10_0) rfl rfl q) ?_
  refine Wk.st (g' := (mkF m 13 #[.val (.ref o0), .val (.ref o1)] [])) (fun X t q => XS.ifnonnullYes X.here C.hx rfl (pc0 := 1) (pc' := 13) rfl (hb C.hby d10_1) rfl (by decide) (by decide) q) ?_
  refine Wk.st (g' := (mkF m 14 #[.val (.ref o0), .val (.ref o1)] [(.ref o0)])) (fun X t q => XS.aloadN X.here C.hx rfl (hb C.hby d10_13) rfl rfl q) ?_
  exact Wk.retV C (t := (.object "java/lang/Object")) rfl rfl (Or.inr (Or.inr (Or.inr (Or.inr ⟨rfl, rfl, rfl⟩)))) d10_14 (by decide) (by decide) ⟨rfl, rfl⟩
theorem d6_0 : decode prog_41_method_1_code 0 = .ok (.aload_n 0, 1) := by decide +kernel
theorem d6_1 : decode prog_41_method_1_code 1 = .ok (.invokespecial 1, 3) := by decide +kernel
theorem d6_4 : decode prog_41_method_1_code 4 = .ok (.aload_n 0, 1) := by decide +kernel
theorem d6_5 : decode prog_41_method_1_code 5 = .ok (.new 7, 3) := by decide +kernel
theorem d6_8 : decode prog_41_method_1_code 8 = .ok (.dup, 1) := by decide +kernel
theorem d6_9 : decode prog_41_method_1_code 9 = .ok (.invokespecial 9, 3) := by decide +kernel
theorem d6_12 : decode prog_41_method_1_code 12 = .ok (.putfield 10, 3) := by decide +kernel
theorem d6_15 : decode prog_41_method_1_code 15 = .ok (.aload_n 0, 1) := by decide +kernel
theorem d6_16 : decode prog_41_method_1_code 16 = .ok (.iconst 0, 1) := by decide +kernel
theorem d6_17 : decode prog_41_method_1_code 17 = .ok (.newarray .byte, 2) := by decide +kernel
theorem d6_19 : decode prog_41_method_1_code 19 = .ok (.putfield 16, 3) := by decide +kernel
theorem d6_22 : decode prog_41_method_1_code 22 = .ok (.aload_n 0, 1) := by decide +kernel
theorem d6_23 : decode prog_41_method_1_code 23 = .ok (.getstatic 20, 3) := by decide +kernel
theorem d6_26 : decode prog_41_method_1_code 26 = .ok (.putfield 26, 3) := by decide +kernel
theorem d6_29 : decode prog_41_method_1_code 29 = .ok (.aload_n 0, 1) := by decide +kernel
theorem d6_30 : decode prog_41_method_1_code 30 = .ok (.iload_n 1, 1) := by decide +kernel
theorem d6_31 : decode prog_41_method_1_code 31 = .ok (.putfield 29, 3) := by decide +kernel
theorem d6_34 : decode prog_41_method_1_code 34 = .ok (.aload_n 0, 1) := by decide +kernel
theorem d6_35 : decode prog_41_method_1_code 35 = .ok (.aload_n 2, 1) := by decide +kernel
theorem d6_36 : decode prog_41_method_1_code 36 = .ok (.ldc 33, 2) := by decide +kernel
theorem d6_38 : decode prog_41_method_1_code 38 = .ok (.invokestatic 35, 3) := by decide +kernel
theorem d6_41 : decode prog_41_method_1_code 41 = .ok (.checkcast 41, 3) := by decide +kernel
theorem d6_44 : decode prog_41_method_1_code 44 = .ok (.putfield 43, 3) := by decide +kernel
theorem d6_47 : decode prog_41_method_1_code 47 = .ok (.aload_n 0, 1) := by decide +kernel
theorem d6_48 : decode prog_41_method_1_code 48 = .ok (.iload_n 3, 1) := by decide +kernel
theorem d6_49 : decode prog_41_method_1_code 49 = .ok (.putfield 46, 3) := by decide +kernel
theorem d6_52 : decode prog_41_method_1_code 52 = .ok (.aload_n 0, 1) := by decide +kernel
theorem d6_53 : decode prog_41_method_1_code 53 = .ok (.iload 4, 2) := by decide +kernel
theorem d6_55 : decode prog_41_method_1_code 55 = .ok (.putfield 49, 3) := by decide +kernel
theorem d6_58 : decode prog_41_method_1_code 58 = .ok (.aload_n 0, 1) := by decide +kernel
theorem d6_59 : decode prog_41_method_1_code 59 = .ok (.iload 5, 2) := by decide +kernel
theorem d6_61 : decode prog_41_method_1_code 61 = .ok (.putfield 52, 3) := by decide +kernel
theorem d6_64 : decode prog_41_method_1_code 64 = .ok (.aload_n 0, 1) := by decide +kernel
theorem d6_65 : decode prog_41_method_1_code 65 = .ok (.aload 6, 2) := by decide +kernel
theorem d6_67 : decode prog_41_method_1_code 67 = .ok (.putfield 55, 3) := by decide +kernel
theorem d6_70 : decode prog_41_method_1_code 70 = .ok (.return_, 1) := by decide +kernel
set_option maxRecDepth 65536 in
set_option maxHeartbeats 40000000 in
theorem own_6_5 (l : Launch) (Z : State) (a0 : Array Value) (hw : ∀ d ∈ tables_1, d.before a0 Z = true) (n0 : Nat) (h0 : Heap) (hsz : n0 ≤ h0.size) (o0 : Addr) (o1 : Addr) (o2 : Addr) (o3 : Addr) (x0 : Int32) (x1 : Int32) (x2 : Int32) (x3 : Int32) (x4 : Int32) (x5 : Int32) (P0 : Exa Z h0 o1 "java/lang/String") (P1 : Exa Z h0 o2 "[B") (P2 : Fa Z h0 o2 .byte 1 (up (fun _ => (.int (0 : Int32))) 0 (.int x4))) (P3 : Sta Z h0 "java/lang/String" "COMPACT_STRINGS" "Z" (.int x5)) (P4 : Sta Z h0 "com/example/ample_queue/amplequeue/protocol/HeaderEncoding" "JSON" "Lcom/example/ample_queue/amplequeue/protocol/HeaderEncoding;" (.ref o3)) (P5 : Fld Z h0 o1 "java/lang/String" "value" "[B" (.ref o2)) (P6 : Fld Z h0 o1 "java/lang/String" "coder" "B" (.int (0 : Int32))) (P7 : Exa Z h0 o0 "com/example/ample_queue/amplequeue/protocol/Frame") (P8 : Fld Z h0 o0 "com/example/ample_queue/amplequeue/protocol/Frame" "extFields" "Ljava/util/Map;" .null) (P9 : Fld Z h0 o0 "com/example/ample_queue/amplequeue/protocol/Frame" "body" "[B" .null) (P10 : Fld Z h0 o0 "com/example/ample_queue/amplequeue/protocol/Frame" "headerEncoding" "Lcom/example/ample_queue/amplequeue/protocol/HeaderEncoding;" .null) (P11 : Fld Z h0 o0 "com/example/ample_queue/amplequeue/protocol/Frame" "code" "I" (.int (0 : Int32))) (P12 : Fld Z h0 o0 "com/example/ample_queue/amplequeue/protocol/Frame" "language" "Ljava/lang/String;" .null) (P13 : Fld Z h0 o0 "com/example/ample_queue/amplequeue/protocol/Frame" "version" "I" (.int (0 : Int32))) (P14 : Fld Z h0 o0 "com/example/ample_queue/amplequeue/protocol/Frame" "flag" "I" (.int (0 : Int32))) (P15 : Fld Z h0 o0 "com/example/ample_queue/amplequeue/protocol/Frame" "remark" "Ljava/lang/String;" .null) (N_o0_o1 : o0 ≠ o1) (N_o0_o2 : o0 ≠ o2) (N_o1_o2 : o1 ≠ o2) (G_o0 : n0 ≤ o0) (G_o1 : n0 ≤ o1) (G_o2 : n0 ≤ o2) :
    Met true l Z n0 (⟨"com/example/ample_queue/amplequeue/protocol/Frame", "<init>", "(ILjava/lang/String;IIILjava/lang/String;)V"⟩ : MethodName) prog_41_method_1_code 7 none ({ frames := 4, cells := 4, slots := 48, locals := 50 } : Room) #[(.ref o0), (.int x0), (.ref o1), (.int x1), (.int x2), (.int x3), .null] h0 (fun v h => ∃ b2 : Addr, ∃ b86 : Addr, v = none ∧ Keep h0 h [o0] ∧ h0.size ≤ b2 ∧ h0.size ≤ b86 ∧ b2 ≠ b86 ∧ Exa Z h b2 "java/util/LinkedHashMap" ∧ Sta Z h "java/lang/String" "COMPACT_STRINGS" "Z" (.int x5) ∧ Sta Z h "com/example/ample_queue/amplequeue/protocol/HeaderEncoding" "JSON" "Lcom/example/ample_queue/amplequeue/protocol/HeaderEncoding;" (.ref o3) ∧ Fld Z h b2 "java/util/HashMap" "loadFactor" "F" (.float (1061158912 : UInt32)) ∧ Fld Z h b2 "java/util/LinkedHashMap" "putMode" "I" (.int (0 : Int32)) ∧ Fld Z h b2 "java/util/LinkedHashMap" "accessOrder" "Z" (.int (0 : Int32)) ∧ Fld Z h o0 "com/example/ample_queue/amplequeue/protocol/Frame" "extFields" "Ljava/util/Map;" (.ref b2) ∧ Exa Z h b86 "[B" ∧ Fa Z h b86 .byte 0 (fun _ => (.int (0 : Int32))) ∧ Fld Z h o0 "com/example/ample_queue/amplequeue/protocol/Frame" "body" "[B" (.ref b86) ∧ Fld Z h o0 "com/example/ample_queue/amplequeue/protocol/Frame" "headerEncoding" "Lcom/example/ample_queue/amplequeue/protocol/HeaderEncoding;" (.ref o3) ∧ Fld Z h o0 "com/example/ample_queue/amplequeue/protocol/Frame" "code" "I" (.int x0) ∧ Fld Z h o0 "com/example/ample_queue/amplequeue/protocol/Frame" "language" "Ljava/lang/String;" (.ref o1) ∧ Fld Z h o0 "com/example/ample_queue/amplequeue/protocol/Frame" "version" "I" (.int x1) ∧ Fld Z h o0 "com/example/ample_queue/amplequeue/protocol/Frame" "flag" "I" (.int x3) ∧ Fld Z h o0 "com/example/ample_queue/amplequeue/protocol/Frame" "remark" "Ljava/lang/String;" .null) := by
  refine Met.of pn_0 #[.val (.ref o0), .val (.int x0), .val (.ref o1), .val (.int x1), .val (.int x2), .val (.int x3), .val .null] (fun m => by first | (simp [entryFrame, mkF, argsToLocals, Value.category]; done) | rfl) ?_
  intro p e s m below meth c C
  refine Wk.st (g' := (mkF m 1 #[.val (.ref o0), .val (.int x0), .val (.ref o1), .val (.int x1), .val (.int x2), .val (.int x3), .val .null] [(.ref o0)])) (fun X t q => XS.aloadN X.here C.hx rfl (hb C.hby d6_0) rfl rfl q) ?_
  refine Wk.initO C (hw _ (List.mem_of_getElem? (i := 32) rfl)) (hw _ (List.mem_of_getElem? (i := 20) rfl)) (hw _ (List.mem_of_getElem? (i := 21) rfl)) (w := 0) rfl d6_1 (by decide) (Nat.le_of_eq rfl) (by decide) ?_
  show Wk _ p l e _ s m _ below meth c n0 _ h0 0 0 (mkF m 4 #[.val (.ref o0), .val (.int x0), .val (.ref o1), .val (.int x1), .val (.int x2), .val (.int x3), .val .null] [])
  refine Wk.st (g' := (mkF m 5 #[.val (.ref o0), .val (.int x0), .val (.ref o1), .val (.int x1), .val (.int x2), .val (.int x3), .val .null] [(.ref o0)])) (fun X t q => XS.aloadN X.here C.hx rfl (hb C.hby d6_4) rfl rfl q) ?_
  refine Wk.newO C (hw _ (List.mem_of_getElem? (i := 33) rfl)) (hw _ (List.mem_of_getElem? (i := 34) rfl)) (hw _ (List.mem_of_getElem? (i := 35) rfl)) d6_5 (by decide) (by decide) ?_
  intro h1 b2 g3 E4 A5 D6
  have ne7 : o1 ≠ b2 := Nat.ne_of_lt (Nat.lt_of_lt_of_le P0.lt (Nat.le_of_eq g3.symm))
  have ne8 : o2 ≠ b2 := Nat.ne_of_lt (Nat.lt_of_lt_of_le P1.lt (Nat.le_of_eq g3.symm))
  have ne9 : o0 ≠ b2 := Nat.ne_of_lt (Nat.lt_of_lt_of_le P7.lt (Nat.le_of_eq g3.symm))
  have ge10 : n0 ≤ b2 := Nat.le_trans hsz (Nat.le_of_eq g3.symm)
  have gz11 : h0.size ≤ b2 := Nat.le_trans (Nat.le_refl h0.size) (Nat.le_of_eq g3.symm)
  have F12 : Exa Z h1 o1 "java/lang/String" := P0.ext E4
  have F13 : Exa Z h1 o2 "[B" := P1.ext E4
  have F14 : Fa Z h1 o2 .byte 1 (up (fun _ => (.int (0 : Int32))) 0 (.int x4)) := P2.ext E4
  have F15 : Sta Z h1 "java/lang/String" "COMPACT_STRINGS" "Z" (.int x5) := P3.ext E4
  have F16 : Sta Z h1 "com/example/ample_queue/amplequeue/protocol/HeaderEncoding" "JSON" "Lcom/example/ample_queue/amplequeue/protocol/HeaderEncoding;" (.ref o3) := P4.ext E4
  have F17 : Fld Z h1 o1 "java/lang/String" "value" "[B" (.ref o2) := P5.ext E4
  have F18 : Fld Z h1 o1 "java/lang/String" "coder" "B" (.int (0 : Int32)) := P6.ext E4
  have F19 : Exa Z h1 o0 "com/example/ample_queue/amplequeue/protocol/Frame" := P7.ext E4
  have F20 : Fld Z h1 o0 "com/example/ample_queue/amplequeue/protocol/Frame" "extFields" "Ljava/util/Map;" .null := P8.ext E4
  have F21 : Fld Z h1 o0 "com/example/ample_queue/amplequeue/protocol/Frame" "body" "[B" .null := P9.ext E4
  have F22 : Fld Z h1 o0 "com/example/ample_queue/amplequeue/protocol/Frame" "headerEncoding" "Lcom/example/ample_queue/amplequeue/protocol/HeaderEncoding;" .null := P10.ext E4
  have F23 : Fld Z h1 o0 "com/example/ample_queue/amplequeue/protocol/Frame" "code" "I" (.int (0 : Int32)) := P11.ext E4
  have F24 : Fld Z h1 o0 "com/example/ample_queue/amplequeue/protocol/Frame" "language" "Ljava/lang/String;" .null := P12.ext E4
  have F25 : Fld Z h1 o0 "com/example/ample_queue/amplequeue/protocol/Frame" "version" "I" (.int (0 : Int32)) := P13.ext E4
  have F26 : Fld Z h1 o0 "com/example/ample_queue/amplequeue/protocol/Frame" "flag" "I" (.int (0 : Int32)) := P14.ext E4
  have F27 : Fld Z h1 o0 "com/example/ample_queue/amplequeue/protocol/Frame" "remark" "Ljava/lang/String;" .null := P15.ext E4
  have sz28 : n0 ≤ h1.size := Nat.le_trans hsz E4.1
  have sy29 : h0.size ≤ h1.size := Nat.le_trans (Nat.le_refl h0.size) E4.1
  have K30 := (Keep.refl h0 [o0]).ext E4
  have F31 : Fld Z h1 b2 "java/util/HashMap" "loadFactor" "F" (.float 0) := D6 (Or.inr (hw _ (List.mem_of_getElem? (i := 54) rfl))) (ty := .float) (by decide)
  have F32 : Fld Z h1 b2 "java/util/LinkedHashMap" "putMode" "I" (.int (0 : Int32)) := D6 (Or.inl (hw _ (List.mem_of_getElem? (i := 56) rfl))) (ty := .int) (by decide)
  have F33 : Fld Z h1 b2 "java/util/LinkedHashMap" "accessOrder" "Z" (.int (0 : Int32)) := D6 (Or.inr (hw _ (List.mem_of_getElem? (i := 58) rfl))) (ty := .boolean) (by decide)
  show Wk _ p l e _ s m _ below meth c n0 _ h1 1 12 (mkF m 8 #[.val (.ref o0), .val (.int x0), .val (.ref o1), .val (.int x1), .val (.int x2), .val (.int x3), .val .null] [(.ref b2), (.ref o0)])
  refine Wk.st (g' := (mkF m 9 #[.val (.ref o0), .val (.int x0), .val (.ref o1), .val (.int x1), .val (.int x2), .val (.int x3), .val .null] [(.ref b2), (.ref b2), (.ref o0)])) (fun X t q => XS.dup X.here C.hx rfl (hb C.hby d6_8) rfl rfl q) ?_
  refine Wk.callI C (z := (⟨"java/util/LinkedHashMap", "<init>", "()V"⟩ : MethodName)) rfl (hw _ (List.mem_of_getElem? (i := 36) rfl)) (hw _ (List.mem_of_getElem? (i := 37) rfl)) (hw _ (List.mem_of_getElem? (i := 35) rfl)) (hw _ (List.mem_of_getElem? (i := 38) rfl)) (by decide) (own_7_5 l Z a0 hw n0 h1 sz28 b2 o3 x5 F15 F16 A5 F31 F32 F33  ge10) (w := 2) (by decide) (by decide) pd_5 rfl (rest := [(.ref b2), (.ref o0)]) rfl rfl (Nat.le_of_eq rfl) (by decide) (by decide) d6_9 ?_
  rintro _ h35 ⟨rfl, K36, F37, F38, F39, F40, F41⟩
  show Wk _ p l e _ s m _ below meth c n0 _ h35 1 12 (mkF m 12 #[.val (.ref o0), .val (.int x0), .val (.ref o1), .val (.int x1), .val (.int x2), .val (.int x3), .val .null] [(.ref b2), (.ref o0)])
  have F42 : Exa Z h35 o1 "java/lang/String" := F12.keep K36
  have F43 : Exa Z h35 o2 "[B" := F13.keep K36
  have F44 : Fa Z h35 o2 .byte 1 (up (fun _ => (.int (0 : Int32))) 0 (.int x4)) := F14.keep K36 (nmS ne8 nm0)
  have F45 : Fld Z h35 o1 "java/lang/String" "value" "[B" (.ref o2) := F17.keep K36 (nmS ne7 nm0)
  have F46 : Fld Z h35 o1 "java/lang/String" "coder" "B" (.int (0 : Int32)) := F18.keep K36 (nmS ne7 nm0)
  have F47 : Exa Z h35 o0 "com/example/ample_queue/amplequeue/protocol/Frame" := F19.keep K36
  have F48 : Fld Z h35 o0 "com/example/ample_queue/amplequeue/protocol/Frame" "extFields" "Ljava/util/Map;" .null := F20.keep K36 (nmS ne9 nm0)
  have F49 : Fld Z h35 o0 "com/example/ample_queue/amplequeue/protocol/Frame" "body" "[B" .null := F21.keep K36 (nmS ne9 nm0)
  have F50 : Fld Z h35 o0 "com/example/ample_queue/amplequeue/protocol/Frame" "headerEncoding" "Lcom/example/ample_queue/amplequeue/protocol/HeaderEncoding;" .null := F22.keep K36 (nmS ne9 nm0)
  have F51 : Fld Z h35 o0 "com/example/ample_queue/amplequeue/protocol/Frame" "code" "I" (.int (0 : Int32)) := F23.keep K36 (nmS ne9 nm0)
  have F52 : Fld Z h35 o0 "com/example/ample_queue/amplequeue/protocol/Frame" "language" "Ljava/lang/String;" .null := F24.keep K36 (nmS ne9 nm0)
  have F53 : Fld Z h35 o0 "com/example/ample_queue/amplequeue/protocol/Frame" "version" "I" (.int (0 : Int32)) := F25.keep K36 (nmS ne9 nm0)
  have F54 : Fld Z h35 o0 "com/example/ample_queue/amplequeue/protocol/Frame" "flag" "I" (.int (0 : Int32)) := F26.keep K36 (nmS ne9 nm0)
  have F55 : Fld Z h35 o0 "com/example/ample_queue/amplequeue/protocol/Frame" "remark" "Ljava/lang/String;" .null := F27.keep K36 (nmS ne9 nm0)
  have F56 : Exa Z h35 b2 "java/util/LinkedHashMap" := A5.keep K36
  have sz57 : n0 ≤ h35.size := Nat.le_trans sz28 K36.1
  have K58 := K30.trans K36 (nvS (Or.inr gz11) nv0)
  have sy59 : h0.size ≤ h35.size := Nat.le_trans sy29 K36.1
  refine Wk.putF C (hw _ (List.mem_of_getElem? (i := 59) rfl)) Via.refl F48 F47 (Or.inr ⟨(hw _ (List.mem_of_getElem? (i := 60) rfl)), rfl, rfl⟩) (hw _ (List.mem_of_getElem? (i := 27) rfl)) (ty := (.object "java/util/Map")) (by decide) (v' := (.ref b2)) rfl rfl G_o0 d6_12 ?_
  intro h60 W61
  have F62 : Fld Z h60 o0 "com/example/ample_queue/amplequeue/protocol/Frame" "extFields" "Ljava/util/Map;" (.ref b2) := F48.same W61
  have F63 : Exa Z h60 o1 "java/lang/String" := F42.wr W61
  have F64 : Exa Z h60 o2 "[B" := F43.wr W61
  have F65 : Fa Z h60 o2 .byte 1 (up (fun _ => (.int (0 : Int32))) 0 (.int x4)) := F44.other W61 (Ne.symm N_o0_o2)
  have F66 : Fld Z h60 o1 "java/lang/String" "value" "[B" (.ref o2) := F45.other W61 (Or.inl (Ne.symm N_o0_o1))
  have F67 : Fld Z h60 o1 "java/lang/String" "coder" "B" (.int (0 : Int32)) := F46.other W61 (Or.inl (Ne.symm N_o0_o1))
  have F68 : Exa Z h60 o0 "com/example/ample_queue/amplequeue/protocol/Frame" := F47.wr W61
  have F69 : Fld Z h60 o0 "com/example/ample_queue/amplequeue/protocol/Frame" "body" "[B" .null := F49.other W61 (Or.inr (slot_ne (Or.inl (hw _ (List.mem_of_getElem? (i := 62) rfl))) (Or.inr (hw _ (List.mem_of_getElem? (i := 60) rfl))) (by decide) (t := (.array .byte)) (t' := (.object "java/util/Map")) (by decide) (by decide)))
  have F70 : Fld Z h60 o0 "com/example/ample_queue/amplequeue/protocol/Frame" "headerEncoding" "Lcom/example/ample_queue/amplequeue/protocol/HeaderEncoding;" .null := F50.other W61 (Or.inr (slot_ne (Or.inl (hw _ (List.mem_of_getElem? (i := 67) rfl))) (Or.inr (hw _ (List.mem_of_getElem? (i := 60) rfl))) (by decide) (t := (.object "com/example/ample_queue/amplequeue/protocol/HeaderEncoding")) (t' := (.object "java/util/Map")) (by decide) (by decide)))
  have F71 : Fld Z h60 o0 "com/example/ample_queue/amplequeue/protocol/Frame" "code" "I" (.int (0 : Int32)) := F51.other W61 (Or.inr (slot_ne (Or.inr (hw _ (List.mem_of_getElem? (i := 69) rfl))) (Or.inr (hw _ (List.mem_of_getElem? (i := 60) rfl))) (by decide) (t := .int) (t' := (.object "java/util/Map")) (by decide) (by decide)))
  have F72 : Fld Z h60 o0 "com/example/ample_queue/amplequeue/protocol/Frame" "language" "Ljava/lang/String;" .null := F52.other W61 (Or.inr (slot_ne (Or.inr (hw _ (List.mem_of_getElem? (i := 79) rfl))) (Or.inr (hw _ (List.mem_of_getElem? (i := 60) rfl))) (by decide) (t := (.object "java/lang/String")) (t' := (.object "java/util/Map")) (by decide) (by decide)))
  have F73 : Fld Z h60 o0 "com/example/ample_queue/amplequeue/protocol/Frame" "version" "I" (.int (0 : Int32)) := F53.other W61 (Or.inr (slot_ne (Or.inr (hw _ (List.mem_of_getElem? (i := 81) rfl))) (Or.inr (hw _ (List.mem_of_getElem? (i := 60) rfl))) (by decide) (t := .int) (t' := (.object "java/util/Map")) (by decide) (by decide)))
  have F74 : Fld Z h60 o0 "com/example/ample_queue/amplequeue/protocol/Frame" "flag" "I" (.int (0 : Int32)) := F54.other W61 (Or.inr (slot_ne (Or.inr (hw _ (List.mem_of_getElem? (i := 85) rfl))) (Or.inr (hw _ (List.mem_of_getElem? (i := 60) rfl))) (by decide) (t := .int) (t' := (.object "java/util/Map")) (by decide) (by decide)))
  have F75 : Fld Z h60 o0 "com/example/ample_queue/amplequeue/protocol/Frame" "remark" "Ljava/lang/String;" .null := F55.other W61 (Or.inr (slot_ne (Or.inr (hw _ (List.mem_of_getElem? (i := 87) rfl))) (Or.inr (hw _ (List.mem_of_getElem? (i := 60) rfl))) (by decide) (t := (.object "java/lang/String")) (t' := (.object "java/util/Map")) (by decide) (by decide)))
  have F76 : Exa Z h60 b2 "java/util/LinkedHashMap" := F56.wr W61
  have F77 : Sta Z h60 "java/lang/String" "COMPACT_STRINGS" "Z" (.int x5) := F37.wr W61
  have F78 : Sta Z h60 "com/example/ample_queue/amplequeue/protocol/HeaderEncoding" "JSON" "Lcom/example/ample_queue/amplequeue/protocol/HeaderEncoding;" (.ref o3) := F38.wr W61
  have F79 : Fld Z h60 b2 "java/util/HashMap" "loadFactor" "F" (.float (1061158912 : UInt32)) := F39.other W61 (Or.inl (Ne.symm ne9))
  have F80 : Fld Z h60 b2 "java/util/LinkedHashMap" "putMode" "I" (.int (0 : Int32)) := F40.other W61 (Or.inl (Ne.symm ne9))
  have F81 : Fld Z h60 b2 "java/util/LinkedHashMap" "accessOrder" "Z" (.int (0 : Int32)) := F41.other W61 (Or.inl (Ne.symm ne9))
  have sz82 : n0 ≤ h60.size := Nat.le_trans sz57 (Nat.le_of_eq W61.size.symm)
  have sy83 : h0.size ≤ h60.size := Nat.le_trans sy59 (Nat.le_of_eq W61.size.symm)
  have K84 := K58.wr W61 (Or.inl (by simp))
  show Wk _ p l e _ s m _ below meth c n0 _ h60 1 12 (mkF m 15 #[.val (.ref o0), .val (.int x0), .val (.ref o1), .val (.int x1), .val (.int x2), .val (.int x3), .val .null] [])
  refine Wk.st (g' := (mkF m 16 #[.val (.ref o0), .val (.int x0), .val (.ref o1), .val (.int x1), .val (.int x2), .val (.int x3), .val .null] [(.ref o0)])) (fun X t q => XS.aloadN X.here C.hx rfl (hb C.hby d6_15) rfl rfl q) ?_
  refine Wk.st (g' := (mkF m 17 #[.val (.ref o0), .val (.int x0), .val (.ref o1), .val (.int x1), .val (.int x2), .val (.int x3), .val .null] [(.int (0 : Int32)), (.ref o0)])) (fun X t q => XS.iconst X.here C.hx rfl (hb C.hby d6_16) q) ?_
  refine Wk.fNewP C (hw _ (List.mem_of_getElem? (i := 14) rfl)) (ty := .byte) (dv := (.int (0 : Int32))) (N := 0) (ad := "[B") rfl rfl (by decide) (by decide) (by decide) (cap := 0) (by decide) (by decide) d6_17 (by decide) (by decide) ?_
  intro h85 b86 g87 E88 A89 F90
  have ne91 : o1 ≠ b86 := Nat.ne_of_lt (Nat.lt_of_lt_of_le F63.lt (Nat.le_of_eq g87.symm))
  have ne92 : o2 ≠ b86 := Nat.ne_of_lt (Nat.lt_of_lt_of_le F64.lt (Nat.le_of_eq g87.symm))
  have ne93 : o0 ≠ b86 := Nat.ne_of_lt (Nat.lt_of_lt_of_le F68.lt (Nat.le_of_eq g87.symm))
  have ne94 : b2 ≠ b86 := Nat.ne_of_lt (Nat.lt_of_lt_of_le F76.lt (Nat.le_of_eq g87.symm))
  have ge95 : n0 ≤ b86 := Nat.le_trans sz82 (Nat.le_of_eq g87.symm)
  have gz96 : h0.size ≤ b86 := Nat.le_trans sy83 (Nat.le_of_eq g87.symm)
  have F97 : Exa Z h85 o1 "java/lang/String" := F63.ext E88
  have F98 : Exa Z h85 o2 "[B" := F64.ext E88
  have F99 : Fa Z h85 o2 .byte 1 (up (fun _ => (.int (0 : Int32))) 0 (.int x4)) := F65.ext E88
  have F100 : Fld Z h85 o1 "java/lang/String" "value" "[B" (.ref o2) := F66.ext E88
  have F101 : Fld Z h85 o1 "java/lang/String" "coder" "B" (.int (0 : Int32)) := F67.ext E88
  have F102 : Exa Z h85 o0 "com/example/ample_queue/amplequeue/protocol/Frame" := F68.ext E88
  have F103 : Fld Z h85 o0 "com/example/ample_queue/amplequeue/protocol/Frame" "body" "[B" .null := F69.ext E88
  have F104 : Fld Z h85 o0 "com/example/ample_queue/amplequeue/protocol/Frame" "headerEncoding" "Lcom/example/ample_queue/amplequeue/protocol/HeaderEncoding;" .null := F70.ext E88
  have F105 : Fld Z h85 o0 "com/example/ample_queue/amplequeue/protocol/Frame" "code" "I" (.int (0 : Int32)) := F71.ext E88
  have F106 : Fld Z h85 o0 "com/example/ample_queue/amplequeue/protocol/Frame" "language" "Ljava/lang/String;" .null := F72.ext E88
  have F107 : Fld Z h85 o0 "com/example/ample_queue/amplequeue/protocol/Frame" "version" "I" (.int (0 : Int32)) := F73.ext E88
  have F108 : Fld Z h85 o0 "com/example/ample_queue/amplequeue/protocol/Frame" "flag" "I" (.int (0 : Int32)) := F74.ext E88
  have F109 : Fld Z h85 o0 "com/example/ample_queue/amplequeue/protocol/Frame" "remark" "Ljava/lang/String;" .null := F75.ext E88
  have F110 : Exa Z h85 b2 "java/util/LinkedHashMap" := F76.ext E88
  have F111 : Sta Z h85 "java/lang/String" "COMPACT_STRINGS" "Z" (.int x5) := F77.ext E88
  have F112 : Sta Z h85 "com/example/ample_queue/amplequeue/protocol/HeaderEncoding" "JSON" "Lcom/example/ample_queue/amplequeue/protocol/HeaderEncoding;" (.ref o3) := F78.ext E88
  have F113 : Fld Z h85 b2 "java/util/HashMap" "loadFactor" "F" (.float (1061158912 : UInt32)) := F79.ext E88
  have F114 : Fld Z h85 b2 "java/util/LinkedHashMap" "putMode" "I" (.int (0 : Int32)) := F80.ext E88
  have F115 : Fld Z h85 b2 "java/util/LinkedHashMap" "accessOrder" "Z" (.int (0 : Int32)) := F81.ext E88
  have F116 : Fld Z h85 o0 "com/example/ample_queue/amplequeue/protocol/Frame" "extFields" "Ljava/util/Map;" (.ref b2) := F62.ext E88
  have sz117 : n0 ≤ h85.size := Nat.le_trans sz82 E88.1
  have sy118 : h0.size ≤ h85.size := Nat.le_trans sy83 E88.1
  have K119 := K84.ext E88
  show Wk _ p l e _ s m _ below meth c n0 _ h85 2 12 (mkF m 19 #[.val (.ref o0), .val (.int x0), .val (.ref o1), .val (.int x1), .val (.int x2), .val (.int x3), .val .null] [(.ref b86), (.ref o0)])
  refine Wk.putF C (hw _ (List.mem_of_getElem? (i := 61) rfl)) Via.refl F103 F102 (Or.inl (hw _ (List.mem_of_getElem? (i := 62) rfl))) (hw _ (List.mem_of_getElem? (i := 27) rfl)) (ty := (.array .byte)) (by decide) (v' := (.ref b86)) rfl rfl G_o0 d6_19 ?_
  intro h120 W121
  have F122 : Fld Z h120 o0 "com/example/ample_queue/amplequeue/protocol/Frame" "body" "[B" (.ref b86) := F103.same W121
  have F123 : Exa Z h120 o1 "java/lang/String" := F97.wr W121
  have F124 : Exa Z h120 o2 "[B" := F98.wr W121
  have F125 : Fa Z h120 o2 .byte 1 (up (fun _ => (.int (0 : Int32))) 0 (.int x4)) := F99.other W121 (Ne.symm N_o0_o2)
  have F126 : Fld Z h120 o1 "java/lang/String" "value" "[B" (.ref o2) := F100.other W121 (Or.inl (Ne.symm N_o0_o1))
  have F127 : Fld Z h120 o1 "java/lang/String" "coder" "B" (.int (0 : Int32)) := F101.other W121 (Or.inl (Ne.symm N_o0_o1))
  have F128 : Exa Z h120 o0 "com/example/ample_queue/amplequeue/protocol/Frame" := F102.wr W121
  have F129 : Fld Z h120 o0 "com/example/ample_queue/amplequeue/protocol/Frame" "headerEncoding" "Lcom/example/ample_queue/amplequeue/protocol/HeaderEncoding;" .null := F104.other W121 (Or.inr (slot_ne (Or.inl (hw _ (List.mem_of_getElem? (i := 67) rfl))) (Or.inl (hw _ (List.mem_of_getElem? (i := 62) rfl))) (by decide) (t := (.object "com/example/ample_queue/amplequeue/protocol/HeaderEncoding")) (t' := (.array .byte)) (by decide) (by decide)))
  have F130 : Fld Z h120 o0 "com/example/ample_queue/amplequeue/protocol/Frame" "code" "I" (.int (0 : Int32)) := F105.other W121 (Or.inr (slot_ne (Or.inr (hw _ (List.mem_of_getElem? (i := 69) rfl))) (Or.inl (hw _ (List.mem_of_getElem? (i := 62) rfl))) (by decide) (t := .int) (t' := (.array .byte)) (by decide) (by decide)))
  have F131 : Fld Z h120 o0 "com/example/ample_queue/amplequeue/protocol/Frame" "language" "Ljava/lang/String;" .null := F106.other W121 (Or.inr (slot_ne (Or.inr (hw _ (List.mem_of_getElem? (i := 79) rfl))) (Or.inl (hw _ (List.mem_of_getElem? (i := 62) rfl))) (by decide) (t := (.object "java/lang/String")) (t' := (.array .byte)) (by decide) (by decide)))
  have F132 : Fld Z h120 o0 "com/example/ample_queue/amplequeue/protocol/Frame" "version" "I" (.int (0 : Int32)) := F107.other W121 (Or.inr (slot_ne (Or.inr (hw _ (List.mem_of_getElem? (i := 81) rfl))) (Or.inl (hw _ (List.mem_of_getElem? (i := 62) rfl))) (by decide) (t := .int) (t' := (.array .byte)) (by decide) (by decide)))
  have F133 : Fld Z h120 o0 "com/example/ample_queue/amplequeue/protocol/Frame" "flag" "I" (.int (0 : Int32)) := F108.other W121 (Or.inr (slot_ne (Or.inr (hw _ (List.mem_of_getElem? (i := 85) rfl))) (Or.inl (hw _ (List.mem_of_getElem? (i := 62) rfl))) (by decide) (t := .int) (t' := (.array .byte)) (by decide) (by decide)))
  have F134 : Fld Z h120 o0 "com/example/ample_queue/amplequeue/protocol/Frame" "remark" "Ljava/lang/String;" .null := F109.other W121 (Or.inr (slot_ne (Or.inr (hw _ (List.mem_of_getElem? (i := 87) rfl))) (Or.inl (hw _ (List.mem_of_getElem? (i := 62) rfl))) (by decide) (t := (.object "java/lang/String")) (t' := (.array .byte)) (by decide) (by decide)))
  have F135 : Exa Z h120 b2 "java/util/LinkedHashMap" := F110.wr W121
  have F136 : Sta Z h120 "java/lang/String" "COMPACT_STRINGS" "Z" (.int x5) := F111.wr W121
  have F137 : Sta Z h120 "com/example/ample_queue/amplequeue/protocol/HeaderEncoding" "JSON" "Lcom/example/ample_queue/amplequeue/protocol/HeaderEncoding;" (.ref o3) := F112.wr W121
  have F138 : Fld Z h120 b2 "java/util/HashMap" "loadFactor" "F" (.float (1061158912 : UInt32)) := F113.other W121 (Or.inl (Ne.symm ne9))
  have F139 : Fld Z h120 b2 "java/util/LinkedHashMap" "putMode" "I" (.int (0 : Int32)) := F114.other W121 (Or.inl (Ne.symm ne9))
  have F140 : Fld Z h120 b2 "java/util/LinkedHashMap" "accessOrder" "Z" (.int (0 : Int32)) := F115.other W121 (Or.inl (Ne.symm ne9))
  have F141 : Fld Z h120 o0 "com/example/ample_queue/amplequeue/protocol/Frame" "extFields" "Ljava/util/Map;" (.ref b2) := F116.other W121 (Or.inr (slot_ne (Or.inr (hw _ (List.mem_of_getElem? (i := 60) rfl))) (Or.inl (hw _ (List.mem_of_getElem? (i := 62) rfl))) (by decide) (t := (.object "java/util/Map")) (t' := (.array .byte)) (by decide) (by decide)))
  have F142 : Exa Z h120 b86 "[B" := A89.wr W121
  have F143 : Fa Z h120 b86 .byte 0 (fun _ => (.int (0 : Int32))) := F90.other W121 (Ne.symm ne93)
  have sz144 : n0 ≤ h120.size := Nat.le_trans sz117 (Nat.le_of_eq W121.size.symm)
  have sy145 : h0.size ≤ h120.size := Nat.le_trans sy118 (Nat.le_of_eq W121.size.symm)
  have K146 := K119.wr W121 (Or.inl (by simp))
  show Wk _ p l e _ s m _ below meth c n0 _ h120 2 12 (mkF m 22 #[.val (.ref o0), .val (.int x0), .val (.ref o1), .val (.int x1), .val (.int x2), .val (.int x3), .val .null] [])
  refine Wk.st (g' := (mkF m 23 #[.val (.ref o0), .val (.int x0), .val (.ref o1), .val (.int x1), .val (.int x2), .val (.int x3), .val .null] [(.ref o0)])) (fun X t q => XS.aloadN X.here C.hx rfl (hb C.hby d6_22) rfl rfl q) ?_
  refine Wk.getS C (hw _ (List.mem_of_getElem? (i := 63) rfl)) F137 d6_23 ?_
  show Wk _ p l e _ s m _ below meth c n0 _ h120 2 12 (mkF m 26 #[.val (.ref o0), .val (.int x0), .val (.ref o1), .val (.int x1), .val (.int x2), .val (.int x3), .val .null] [(.ref o3), (.ref o0)])
  refine Wk.putF C (hw _ (List.mem_of_getElem? (i := 66) rfl)) Via.refl F129 F128 (Or.inl (hw _ (List.mem_of_getElem? (i := 67) rfl))) (hw _ (List.mem_of_getElem? (i := 27) rfl)) (ty := (.object "com/example/ample_queue/amplequeue/protocol/HeaderEncoding")) (by decide) (v' := (.ref o3)) rfl rfl G_o0 d6_26 ?_
  intro h147 W148
  have F149 : Fld Z h147 o0 "com/example/ample_queue/amplequeue/protocol/Frame" "headerEncoding" "Lcom/example/ample_queue/amplequeue/protocol/HeaderEncoding;" (.ref o3) := F129.same W148
  have F150 : Exa Z h147 o1 "java/lang/String" := F123.wr W148
  have F151 : Exa Z h147 o2 "[B" := F124.wr W148
  have F152 : Fa Z h147 o2 .byte 1 (up (fun _ => (.int (0 : Int32))) 0 (.int x4)) := F125.other W148 (Ne.symm N_o0_o2)
  have F153 : Fld Z h147 o1 "java/lang/String" "value" "[B" (.ref o2) := F126.other W148 (Or.inl (Ne.symm N_o0_o1))
  have F154 : Fld Z h147 o1 "java/lang/String" "coder" "B" (.int (0 : Int32)) := F127.other W148 (Or.inl (Ne.symm N_o0_o1))
  have F155 : Exa Z h147 o0 "com/example/ample_queue/amplequeue/protocol/Frame" := F128.wr W148
  have F156 : Fld Z h147 o0 "com/example/ample_queue/amplequeue/protocol/Frame" "code" "I" (.int (0 : Int32)) := F130.other W148 (Or.inr (slot_ne (Or.inr (hw _ (List.mem_of_getElem? (i := 69) rfl))) (Or.inl (hw _ (List.mem_of_getElem? (i := 67) rfl))) (by decide) (t := .int) (t' := (.object "com/example/ample_queue/amplequeue/protocol/HeaderEncoding")) (by decide) (by decide)))
  have F157 : Fld Z h147 o0 "com/example/ample_queue/amplequeue/protocol/Frame" "language" "Ljava/lang/String;" .null := F131.other W148 (Or.inr (slot_ne (Or.inr (hw _ (List.mem_of_getElem? (i := 79) rfl))) (Or.inl (hw _ (List.mem_of_getElem? (i := 67) rfl))) (by decide) (t := (.object "java/lang/String")) (t' := (.object "com/example/ample_queue/amplequeue/protocol/HeaderEncoding")) (by decide) (by decide)))
  have F158 : Fld Z h147 o0 "com/example/ample_queue/amplequeue/protocol/Frame" "version" "I" (.int (0 : Int32)) := F132.other W148 (Or.inr (slot_ne (Or.inr (hw _ (List.mem_of_getElem? (i := 81) rfl))) (Or.inl (hw _ (List.mem_of_getElem? (i := 67) rfl))) (by decide) (t := .int) (t' := (.object "com/example/ample_queue/amplequeue/protocol/HeaderEncoding")) (by decide) (by decide)))
  have F159 : Fld Z h147 o0 "com/example/ample_queue/amplequeue/protocol/Frame" "flag" "I" (.int (0 : Int32)) := F133.other W148 (Or.inr (slot_ne (Or.inr (hw _ (List.mem_of_getElem? (i := 85) rfl))) (Or.inl (hw _ (List.mem_of_getElem? (i := 67) rfl))) (by decide) (t := .int) (t' := (.object "com/example/ample_queue/amplequeue/protocol/HeaderEncoding")) (by decide) (by decide)))
  have F160 : Fld Z h147 o0 "com/example/ample_queue/amplequeue/protocol/Frame" "remark" "Ljava/lang/String;" .null := F134.other W148 (Or.inr (slot_ne (Or.inr (hw _ (List.mem_of_getElem? (i := 87) rfl))) (Or.inl (hw _ (List.mem_of_getElem? (i := 67) rfl))) (by decide) (t := (.object "java/lang/String")) (t' := (.object "com/example/ample_queue/amplequeue/protocol/HeaderEncoding")) (by decide) (by decide)))
  have F161 : Exa Z h147 b2 "java/util/LinkedHashMap" := F135.wr W148
  have F162 : Sta Z h147 "java/lang/String" "COMPACT_STRINGS" "Z" (.int x5) := F136.wr W148
  have F163 : Sta Z h147 "com/example/ample_queue/amplequeue/protocol/HeaderEncoding" "JSON" "Lcom/example/ample_queue/amplequeue/protocol/HeaderEncoding;" (.ref o3) := F137.wr W148
  have F164 : Fld Z h147 b2 "java/util/HashMap" "loadFactor" "F" (.float (1061158912 : UInt32)) := F138.other W148 (Or.inl (Ne.symm ne9))
  have F165 : Fld Z h147 b2 "java/util/LinkedHashMap" "putMode" "I" (.int (0 : Int32)) := F139.other W148 (Or.inl (Ne.symm ne9))
  have F166 : Fld Z h147 b2 "java/util/LinkedHashMap" "accessOrder" "Z" (.int (0 : Int32)) := F140.other W148 (Or.inl (Ne.symm ne9))
  have F167 : Fld Z h147 o0 "com/example/ample_queue/amplequeue/protocol/Frame" "extFields" "Ljava/util/Map;" (.ref b2) := F141.other W148 (Or.inr (slot_ne (Or.inr (hw _ (List.mem_of_getElem? (i := 60) rfl))) (Or.inl (hw _ (List.mem_of_getElem? (i := 67) rfl))) (by decide) (t := (.object "java/util/Map")) (t' := (.object "com/example/ample_queue/amplequeue/protocol/HeaderEncoding")) (by decide) (by decide)))
  have F168 : Exa Z h147 b86 "[B" := F142.wr W148
  have F169 : Fa Z h147 b86 .byte 0 (fun _ => (.int (0 : Int32))) := F143.other W148 (Ne.symm ne93)
  have F170 : Fld Z h147 o0 "com/example/ample_queue/amplequeue/protocol/Frame" "body" "[B" (.ref b86) := F122.other W148 (Or.inr (slot_ne (Or.inl (hw _ (List.mem_of_getElem? (i := 62) rfl))) (Or.inl (hw _ (List.mem_of_getElem? (i := 67) rfl))) (by decide) (t := (.array .byte)) (t' := (.object "com/example/ample_queue/amplequeue/protocol/HeaderEncoding")) (by decide) (by decide)))
  have sz171 : n0 ≤ h147.size := Nat.le_trans sz144 (Nat.le_of_eq W148.size.symm)
  have sy172 : h0.size ≤ h147.size := Nat.le_trans sy145 (Nat.le_of_eq W148.size.symm)
  have K173 := K146.wr W148 (Or.inl (by simp))
  show Wk _ p l e _ s m _ below meth c n0 _ h147 2 12 (mkF m 29 #[.val (.ref o0), .val (.int x0), .val (.ref o1), .val (.int x1), .val (.int x2), .val (.int x3), .val .null] [])
  refine Wk.st (g' := (mkF m 30 #[.val (.ref o0), .val (.int x0), .val (.ref o1), .val (.int x1), .val (.int x2), .val (.int x3), .val .null] [(.ref o0)])) (fun X t q => XS.aloadN X.here C.hx rfl (hb C.hby d6_29) rfl rfl q) ?_
  refine Wk.st (g' := (mkF m 31 #[.val (.ref o0), .val (.int x0), .val (.ref o1), .val (.int x1), .val (.int x2), .val (.int x3), .val .null] [(.int x0), (.ref o0)])) (fun X t q => XS.iloadN X.here C.hx rfl (hb C.hby d6_30) rfl q) ?_
  refine Wk.putF C (hw _ (List.mem_of_getElem? (i := 68) rfl)) Via.refl F156 F155 (Or.inr ⟨(hw _ (List.mem_of_getElem? (i := 69) rfl)), rfl, rfl⟩) (hw _ (List.mem_of_getElem? (i := 27) rfl)) (ty := .int) (by decide) (v' := (.int x0)) rfl rfl G_o0 d6_31 ?_
  intro h174 W175
  have F176 : Fld Z h174 o0 "com/example/ample_queue/amplequeue/protocol/Frame" "code" "I" (.int x0) := F156.same W175
  have F177 : Exa Z h174 o1 "java/lang/String" := F150.wr W175
  have F178 : Exa Z h174 o2 "[B" := F151.wr W175
  have F179 : Fa Z h174 o2 .byte 1 (up (fun _ => (.int (0 : Int32))) 0 (.int x4)) := F152.other W175 (Ne.symm N_o0_o2)
  have F180 : Fld Z h174 o1 "java/lang/String" "value" "[B" (.ref o2) := F153.other W175 (Or.inl (Ne.symm N_o0_o1))
  have F181 : Fld Z h174 o1 "java/lang/String" "coder" "B" (.int (0 : Int32)) := F154.other W175 (Or.inl (Ne.symm N_o0_o1))
  have F182 : Exa Z h174 o0 "com/example/ample_queue/amplequeue/protocol/Frame" := F155.wr W175
  have F183 : Fld Z h174 o0 "com/example/ample_queue/amplequeue/protocol/Frame" "language" "Ljava/lang/String;" .null := F157.other W175 (Or.inr (slot_ne (Or.inr (hw _ (List.mem_of_getElem? (i := 79) rfl))) (Or.inr (hw _ (List.mem_of_getElem? (i := 69) rfl))) (by decide) (t := (.object "java/lang/String")) (t' := .int) (by decide) (by decide)))
  have F184 : Fld Z h174 o0 "com/example/ample_queue/amplequeue/protocol/Frame" "version" "I" (.int (0 : Int32)) := F158.other W175 (Or.inr (slot_ne (Or.inr (hw _ (List.mem_of_getElem? (i := 81) rfl))) (Or.inr (hw _ (List.mem_of_getElem? (i := 69) rfl))) (by decide) (t := .int) (t' := .int) (by decide) (by decide)))
  have F185 : Fld Z h174 o0 "com/example/ample_queue/amplequeue/protocol/Frame" "flag" "I" (.int (0 : Int32)) := F159.other W175 (Or.inr (slot_ne (Or.inr (hw _ (List.mem_of_getElem? (i := 85) rfl))) (Or.inr (hw _ (List.mem_of_getElem? (i := 69) rfl))) (by decide) (t := .int) (t' := .int) (by decide) (by decide)))
  have F186 : Fld Z h174 o0 "com/example/ample_queue/amplequeue/protocol/Frame" "remark" "Ljava/lang/String;" .null := F160.other W175 (Or.inr (slot_ne (Or.inr (hw _ (List.mem_of_getElem? (i := 87) rfl))) (Or.inr (hw _ (List.mem_of_getElem? (i := 69) rfl))) (by decide) (t := (.object "java/lang/String")) (t' := .int) (by decide) (by decide)))
  have F187 : Exa Z h174 b2 "java/util/LinkedHashMap" := F161.wr W175
  have F188 : Sta Z h174 "java/lang/String" "COMPACT_STRINGS" "Z" (.int x5) := F162.wr W175
  have F189 : Sta Z h174 "com/example/ample_queue/amplequeue/protocol/HeaderEncoding" "JSON" "Lcom/example/ample_queue/amplequeue/protocol/HeaderEncoding;" (.ref o3) := F163.wr W175
  have F190 : Fld Z h174 b2 "java/util/HashMap" "loadFactor" "F" (.float (1061158912 : UInt32)) := F164.other W175 (Or.inl (Ne.symm ne9))
  have F191 : Fld Z h174 b2 "java/util/LinkedHashMap" "putMode" "I" (.int (0 : Int32)) := F165.other W175 (Or.inl (Ne.symm ne9))
  have F192 : Fld Z h174 b2 "java/util/LinkedHashMap" "accessOrder" "Z" (.int (0 : Int32)) := F166.other W175 (Or.inl (Ne.symm ne9))
  have F193 : Fld Z h174 o0 "com/example/ample_queue/amplequeue/protocol/Frame" "extFields" "Ljava/util/Map;" (.ref b2) := F167.other W175 (Or.inr (slot_ne (Or.inr (hw _ (List.mem_of_getElem? (i := 60) rfl))) (Or.inr (hw _ (List.mem_of_getElem? (i := 69) rfl))) (by decide) (t := (.object "java/util/Map")) (t' := .int) (by decide) (by decide)))
  have F194 : Exa Z h174 b86 "[B" := F168.wr W175
  have F195 : Fa Z h174 b86 .byte 0 (fun _ => (.int (0 : Int32))) := F169.other W175 (Ne.symm ne93)
  have F196 : Fld Z h174 o0 "com/example/ample_queue/amplequeue/protocol/Frame" "body" "[B" (.ref b86) := F170.other W175 (Or.inr (slot_ne (Or.inl (hw _ (List.mem_of_getElem? (i := 62) rfl))) (Or.inr (hw _ (List.mem_of_getElem? (i := 69) rfl))) (by decide) (t := (.array .byte)) (t' := .int) (by decide) (by decide)))
  have F197 : Fld Z h174 o0 "com/example/ample_queue/amplequeue/protocol/Frame" "headerEncoding" "Lcom/example/ample_queue/amplequeue/protocol/HeaderEncoding;" (.ref o3) := F149.other W175 (Or.inr (slot_ne (Or.inl (hw _ (List.mem_of_getElem? (i := 67) rfl))) (Or.inr (hw _ (List.mem_of_getElem? (i := 69) rfl))) (by decide) (t := (.object "com/example/ample_queue/amplequeue/protocol/HeaderEncoding")) (t' := .int) (by decide) (by decide)))
  have sz198 : n0 ≤ h174.size := Nat.le_trans sz171 (Nat.le_of_eq W175.size.symm)
  have sy199 : h0.size ≤ h174.size := Nat.le_trans sy172 (Nat.le_of_eq W175.size.symm)
  have K200 := K173.wr W175 (Or.inl (by simp))
  show Wk _ p l e _ s m _ below meth c n0 _ h174 2 12 (mkF m 34 #[.val (.ref o0), .val (.int x0), .val (.ref o1), .val (.int x1), .val (.int x2), .val (.int x3), .val .null] [])
  refine Wk.st (g' := (mkF m 35 #[.val (.ref o0), .val (.int x0), .val (.ref o1), .val (.int x1), .val (.int x2), .val (.int x3), .val .null] [(.ref o0)])) (fun X t q => XS.aloadN X.here C.hx rfl (hb C.hby d6_34) rfl rfl q) ?_
  refine Wk.st (g' := (mkF m 36 #[.val (.ref o0), .val (.int x0), .val (.ref o1), .val (.int x1), .val (.int x2), .val (.int x3), .val .null] [(.ref o1), (.ref o0)])) (fun X t q => XS.aloadN X.here C.hx rfl (hb C.hby d6_35) rfl rfl q) ?_
  refine Wk.ldcS C (hw _ (List.mem_of_getElem? (i := 70) rfl)) (own_wS hw) (N := 32) (by decide) (by decide) d6_36 (by decide) (by decide) ?_
  intro h201 a202 E203
  have F204 : Exa Z h201 o1 "java/lang/String" := F177.ext E203
  have F205 : Exa Z h201 o2 "[B" := F178.ext E203
  have F206 : Fa Z h201 o2 .byte 1 (up (fun _ => (.int (0 : Int32))) 0 (.int x4)) := F179.ext E203
  have F207 : Fld Z h201 o1 "java/lang/String" "value" "[B" (.ref o2) := F180.ext E203
  have F208 : Fld Z h201 o1 "java/lang/String" "coder" "B" (.int (0 : Int32)) := F181.ext E203
  have F209 : Exa Z h201 o0 "com/example/ample_queue/amplequeue/protocol/Frame" := F182.ext E203
  have F210 : Fld Z h201 o0 "com/example/ample_queue/amplequeue/protocol/Frame" "language" "Ljava/lang/String;" .null := F183.ext E203
  have F211 : Fld Z h201 o0 "com/example/ample_queue/amplequeue/protocol/Frame" "version" "I" (.int (0 : Int32)) := F184.ext E203
  have F212 : Fld Z h201 o0 "com/example/ample_queue/amplequeue/protocol/Frame" "flag" "I" (.int (0 : Int32)) := F185.ext E203
  have F213 : Fld Z h201 o0 "com/example/ample_queue/amplequeue/protocol/Frame" "remark" "Ljava/lang/String;" .null := F186.ext E203
  have F214 : Exa Z h201 b2 "java/util/LinkedHashMap" := F187.ext E203
  have F215 : Sta Z h201 "java/lang/String" "COMPACT_STRINGS" "Z" (.int x5) := F188.ext E203
  have F216 : Sta Z h201 "com/example/ample_queue/amplequeue/protocol/HeaderEncoding" "JSON" "Lcom/example/ample_queue/amplequeue/protocol/HeaderEncoding;" (.ref o3) := F189.ext E203
  have F217 : Fld Z h201 b2 "java/util/HashMap" "loadFactor" "F" (.float (1061158912 : UInt32)) := F190.ext E203
  have F218 : Fld Z h201 b2 "java/util/LinkedHashMap" "putMode" "I" (.int (0 : Int32)) := F191.ext E203
  have F219 : Fld Z h201 b2 "java/util/LinkedHashMap" "accessOrder" "Z" (.int (0 : Int32)) := F192.ext E203
  have F220 : Fld Z h201 o0 "com/example/ample_queue/amplequeue/protocol/Frame" "extFields" "Ljava/util/Map;" (.ref b2) := F193.ext E203
  have F221 : Exa Z h201 b86 "[B" := F194.ext E203
  have F222 : Fa Z h201 b86 .byte 0 (fun _ => (.int (0 : Int32))) := F195.ext E203
  have F223 : Fld Z h201 o0 "com/example/ample_queue/amplequeue/protocol/Frame" "body" "[B" (.ref b86) := F196.ext E203
  have F224 : Fld Z h201 o0 "com/example/ample_queue/amplequeue/protocol/Frame" "headerEncoding" "Lcom/example/ample_queue/amplequeue/protocol/HeaderEncoding;" (.ref o3) := F197.ext E203
  have F225 : Fld Z h201 o0 "com/example/ample_queue/amplequeue/protocol/Frame" "code" "I" (.int x0) := F176.ext E203
  have sz226 : n0 ≤ h201.size := Nat.le_trans sz198 E203.1
  have sy227 : h0.size ≤ h201.size := Nat.le_trans sy199 E203.1
  have K228 := K200.ext E203
  show Wk _ p l e _ s m _ below meth c n0 _ h201 4 48 (mkF m 38 #[.val (.ref o0), .val (.int x0), .val (.ref o1), .val (.int x1), .val (.int x2), .val (.int x3), .val .null] [(.ref a202), (.ref o1), (.ref o0)])
  refine Wk.callS C (z := (⟨"java/util/Objects", "requireNonNull", "(Ljava/lang/Object;Ljava/lang/String;)Ljava/lang/Object;"⟩ : MethodName)) (hw _ (List.mem_of_getElem? (i := 73) rfl)) (hw _ (List.mem_of_getElem? (i := 74) rfl)) (hw _ (List.mem_of_getElem? (i := 75) rfl)) (hw _ (List.mem_of_getElem? (i := 76) rfl)) (by decide) (own_10_8 l Z a0 hw n0 h201 sz226 o1 a202 o2 o3 x4 x5 F204 F205 F206 F207 F208 F215 F216 N_o1_o2 G_o1 G_o2) (w := 1) (by decide) (by decide) pd_6 rfl (rest := [(.ref o0)]) rfl rfl (Nat.le_of_eq rfl) (by decide) (by decide) d6_38 ?_
  rintro _ _ ⟨rfl, rfl⟩
  show Wk _ p l e _ s m _ below meth c n0 _ h201 4 48 (mkF m 41 #[.val (.ref o0), .val (.int x0), .val (.ref o1), .val (.int x1), .val (.int x2), .val (.int x3), .val .null] [(.ref o1), (.ref o0)])
  refine Wk.cast C (hw _ (List.mem_of_getElem? (i := 77) rfl)) (Ins.self F204) d6_41 ?_
  show Wk _ p l e _ s m _ below meth c n0 _ h201 4 48 (mkF m 44 #[.val (.ref o0), .val (.int x0), .val (.ref o1), .val (.int x1), .val (.int x2), .val (.int x3), .val .null] [(.ref o1), (.ref o0)])
  refine Wk.putF C (hw _ (List.mem_of_getElem? (i := 78) rfl)) Via.refl F210 F209 (Or.inr ⟨(hw _ (List.mem_of_getElem? (i := 79) rfl)), rfl, rfl⟩) (hw _ (List.mem_of_getElem? (i := 27) rfl)) (ty := (.object "java/lang/String")) (by decide) (v' := (.ref o1)) rfl rfl G_o0 d6_44 ?_
  intro h233 W234
  have F235 : Fld Z h233 o0 "com/example/ample_queue/amplequeue/protocol/Frame" "language" "Ljava/lang/String;" (.ref o1) := F210.same W234
  have F236 : Exa Z h233 o1 "java/lang/String" := F204.wr W234
  have F237 : Exa Z h233 o2 "[B" := F205.wr W234
  have F238 : Fa Z h233 o2 .byte 1 (up (fun _ => (.int (0 : Int32))) 0 (.int x4)) := F206.other W234 (Ne.symm N_o0_o2)
  have F239 : Fld Z h233 o1 "java/lang/String" "value" "[B" (.ref o2) := F207.other W234 (Or.inl (Ne.symm N_o0_o1))
  have F240 : Fld Z h233 o1 "java/lang/String" "coder" "B" (.int (0 : Int32)) := F208.other W234 (Or.inl (Ne.symm N_o0_o1))
  have F241 : Exa Z h233 o0 "com/example/ample_queue/amplequeue/protocol/Frame" := F209.wr W234
  have F242 : Fld Z h233 o0 "com/example/ample_queue/amplequeue/protocol/Frame" "version" "I" (.int (0 : Int32)) := F211.other W234 (Or.inr (slot_ne (Or.inr (hw _ (List.mem_of_getElem? (i := 81) rfl))) (Or.inr (hw _ (List.mem_of_getElem? (i := 79) rfl))) (by decide) (t := .int) (t' := (.object "java/lang/String")) (by decide) (by decide)))
  have F243 : Fld Z h233 o0 "com/example/ample_queue/amplequeue/protocol/Frame" "flag" "I" (.int (0 : Int32)) := F212.other W234 (Or.inr (slot_ne (Or.inr (hw _ (List.mem_of_getElem? (i := 85) rfl))) (Or.inr (hw _ (List.mem_of_getElem? (i := 79) rfl))) (by decide) (t := .int) (t' := (.object "java/lang/String")) (by decide) (by decide)))
  have F244 : Fld Z h233 o0 "com/example/ample_queue/amplequeue/protocol/Frame" "remark" "Ljava/lang/String;" .null := F213.other W234 (Or.inr (slot_ne (Or.inr (hw _ (List.mem_of_getElem? (i := 87) rfl))) (Or.inr (hw _ (List.mem_of_getElem? (i := 79) rfl))) (by decide) (t := (.object "java/lang/String")) (t' := (.object "java/lang/String")) (by decide) (by decide)))
  have F245 : Exa Z h233 b2 "java/util/LinkedHashMap" := F214.wr W234
  have F246 : Sta Z h233 "java/lang/String" "COMPACT_STRINGS" "Z" (.int x5) := F215.wr W234
  have F247 : Sta Z h233 "com/example/ample_queue/amplequeue/protocol/HeaderEncoding" "JSON" "Lcom/example/ample_queue/amplequeue/protocol/HeaderEncoding;" (.ref o3) := F216.wr W234
  have F248 : Fld Z h233 b2 "java/util/HashMap" "loadFactor" "F" (.float (1061158912 : UInt32)) := F217.other W234 (Or.inl (Ne.symm ne9))
  have F249 : Fld Z h233 b2 "java/util/LinkedHashMap" "putMode" "I" (.int (0 : Int32)) := F218.other W234 (Or.inl (Ne.symm ne9))
  have F250 : Fld Z h233 b2 "java/util/LinkedHashMap" "accessOrder" "Z" (.int (0 : Int32)) := F219.other W234 (Or.inl (Ne.symm ne9))
  have F251 : Fld Z h233 o0 "com/example/ample_queue/amplequeue/protocol/Frame" "extFields" "Ljava/util/Map;" (.ref b2) := F220.other W234 (Or.inr (slot_ne (Or.inr (hw _ (List.mem_of_getElem? (i := 60) rfl))) (Or.inr (hw _ (List.mem_of_getElem? (i := 79) rfl))) (by decide) (t := (.object "java/util/Map")) (t' := (.object "java/lang/String")) (by decide) (by decide)))
  have F252 : Exa Z h233 b86 "[B" := F221.wr W234
  have F253 : Fa Z h233 b86 .byte 0 (fun _ => (.int (0 : Int32))) := F222.other W234 (Ne.symm ne93)
  have F254 : Fld Z h233 o0 "com/example/ample_queue/amplequeue/protocol/Frame" "body" "[B" (.ref b86) := F223.other W234 (Or.inr (slot_ne (Or.inl (hw _ (List.mem_of_getElem? (i := 62) rfl))) (Or.inr (hw _ (List.mem_of_getElem? (i := 79) rfl))) (by decide) (t := (.array .byte)) (t' := (.object "java/lang/String")) (by decide) (by decide)))
  have F255 : Fld Z h233 o0 "com/example/ample_queue/amplequeue/protocol/Frame" "headerEncoding" "Lcom/example/ample_queue/amplequeue/protocol/HeaderEncoding;" (.ref o3) := F224.other W234 (Or.inr (slot_ne (Or.inl (hw _ (List.mem_of_getElem? (i := 67) rfl))) (Or.inr (hw _ (List.mem_of_getElem? (i := 79) rfl))) (by decide) (t := (.object "com/example/ample_queue/amplequeue/protocol/HeaderEncoding")) (t' := (.object "java/lang/String")) (by decide) (by decide)))
  have F256 : Fld Z h233 o0 "com/example/ample_queue/amplequeue/protocol/Frame" "code" "I" (.int x0) := F225.other W234 (Or.inr (slot_ne (Or.inr (hw _ (List.mem_of_getElem? (i := 69) rfl))) (Or.inr (hw _ (List.mem_of_getElem? (i := 79) rfl))) (by decide) (t := .int) (t' := (.object "java/lang/String")) (by decide) (by decide)))
  have sz257 : n0 ≤ h233.size := Nat.le_trans sz226 (Nat.le_of_eq W234.size.symm)
  have sy258 : h0.size ≤ h233.size := Nat.le_trans sy227 (Nat.le_of_eq W234.size.symm)
  have K259 := K228.wr W234 (Or.inl (by simp))
  show Wk _ p l e _ s m _ below meth c n0 _ h233 4 48 (mkF m 47 #[.val (.ref o0), .val (.int x0), .val (.ref o1), .val (.int x1), .val (.int x2), .val (.int x3), .val .null] [])
  refine Wk.st (g' := (mkF m 48 #[.val (.ref o0), .val (.int x0), .val (.ref o1), .val (.int x1), .val (.int x2), .val (.int x3), .val .null] [(.ref o0)])) (fun X t q => XS.aloadN X.here C.hx rfl (hb C.hby d6_47) rfl rfl q) ?_
  refine Wk.st (g' := (mkF m 49 #[.val (.ref o0), .val (.int x0), .val (.ref o1), .val (.int x1), .val (.int x2), .val (.int x3), .val .null] [(.int x1), (.ref o0)])) (fun X t q => XS.iloadN X.here C.hx rfl (hb C.hby d6_48) rfl q) ?_
  refine Wk.putF C (hw _ (List.mem_of_getElem? (i := 80) rfl)) Via.refl F242 F241 (Or.inr ⟨(hw _ (List.mem_of_getElem? (i := 81) rfl)), rfl, rfl⟩) (hw _ (List.mem_of_getElem? (i := 27) rfl)) (ty := .int) (by decide) (v' := (.int x1)) rfl rfl G_o0 d6_49 ?_
  intro h260 W261
  have F262 : Fld Z h260 o0 "com/example/ample_queue/amplequeue/protocol/Frame" "version" "I" (.int x1) := F242.same W261
  have F263 : Exa Z h260 o1 "java/lang/String" := F236.wr W261
  have F264 : Exa Z h260 o2 "[B" := F237.wr W261
  have F265 : Fa Z h260 o2 .byte 1 (up (fun _ => (.int (0 : Int32))) 0 (.int x4)) := F238.other W261 (Ne.symm N_o0_o2)
  have F266 : Fld Z h260 o1 "java/lang/String" "value" "[B" (.ref o2) := F239.other W261 (Or.inl (Ne.symm N_o0_o1))
  have F267 : Fld Z h260 o1 "java/lang/String" "coder" "B" (.int (0 : Int32)) := F240.other W261 (Or.inl (Ne.symm N_o0_o1))
  have F268 : Exa Z h260 o0 "com/example/ample_queue/amplequeue/protocol/Frame" := F241.wr W261
  have F269 : Fld Z h260 o0 "com/example/ample_queue/amplequeue/protocol/Frame" "flag" "I" (.int (0 : Int32)) := F243.other W261 (Or.inr (slot_ne (Or.inr (hw _ (List.mem_of_getElem? (i := 85) rfl))) (Or.inr (hw _ (List.mem_of_getElem? (i := 81) rfl))) (by decide) (t := .int) (t' := .int) (by decide) (by decide)))
  have F270 : Fld Z h260 o0 "com/example/ample_queue/amplequeue/protocol/Frame" "remark" "Ljava/lang/String;" .null := F244.other W261 (Or.inr (slot_ne (Or.inr (hw _ (List.mem_of_getElem? (i := 87) rfl))) (Or.inr (hw _ (List.mem_of_getElem? (i := 81) rfl))) (by decide) (t := (.object "java/lang/String")) (t' := .int) (by decide) (by decide)))
  have F271 : Exa Z h260 b2 "java/util/LinkedHashMap" := F245.wr W261
  have F272 : Sta Z h260 "java/lang/String" "COMPACT_STRINGS" "Z" (.int x5) := F246.wr W261
  have F273 : Sta Z h260 "com/example/ample_queue/amplequeue/protocol/HeaderEncoding" "JSON" "Lcom/example/ample_queue/amplequeue/protocol/HeaderEncoding;" (.ref o3) := F247.wr W261
  have F274 : Fld Z h260 b2 "java/util/HashMap" "loadFactor" "F" (.float (1061158912 : UInt32)) := F248.other W261 (Or.inl (Ne.symm ne9))
  have F275 : Fld Z h260 b2 "java/util/LinkedHashMap" "putMode" "I" (.int (0 : Int32)) := F249.other W261 (Or.inl (Ne.symm ne9))
  have F276 : Fld Z h260 b2 "java/util/LinkedHashMap" "accessOrder" "Z" (.int (0 : Int32)) := F250.other W261 (Or.inl (Ne.symm ne9))
  have F277 : Fld Z h260 o0 "com/example/ample_queue/amplequeue/protocol/Frame" "extFields" "Ljava/util/Map;" (.ref b2) := F251.other W261 (Or.inr (slot_ne (Or.inr (hw _ (List.mem_of_getElem? (i := 60) rfl))) (Or.inr (hw _ (List.mem_of_getElem? (i := 81) rfl))) (by decide) (t := (.object "java/util/Map")) (t' := .int) (by decide) (by decide)))
  have F278 : Exa Z h260 b86 "[B" := F252.wr W261
  have F279 : Fa Z h260 b86 .byte 0 (fun _ => (.int (0 : Int32))) := F253.other W261 (Ne.symm ne93)
  have F280 : Fld Z h260 o0 "com/example/ample_queue/amplequeue/protocol/Frame" "body" "[B" (.ref b86) := F254.other W261 (Or.inr (slot_ne (Or.inl (hw _ (List.mem_of_getElem? (i := 62) rfl))) (Or.inr (hw _ (List.mem_of_getElem? (i := 81) rfl))) (by decide) (t := (.array .byte)) (t' := .int) (by decide) (by decide)))
  have F281 : Fld Z h260 o0 "com/example/ample_queue/amplequeue/protocol/Frame" "headerEncoding" "Lcom/example/ample_queue/amplequeue/protocol/HeaderEncoding;" (.ref o3) := F255.other W261 (Or.inr (slot_ne (Or.inl (hw _ (List.mem_of_getElem? (i := 67) rfl))) (Or.inr (hw _ (List.mem_of_getElem? (i := 81) rfl))) (by decide) (t := (.object "com/example/ample_queue/amplequeue/protocol/HeaderEncoding")) (t' := .int) (by decide) (by decide)))
  have F282 : Fld Z h260 o0 "com/example/ample_queue/amplequeue/protocol/Frame" "code" "I" (.int x0) := F256.other W261 (Or.inr (slot_ne (Or.inr (hw _ (List.mem_of_getElem? (i := 69) rfl))) (Or.inr (hw _ (List.mem_of_getElem? (i := 81) rfl))) (by decide) (t := .int) (t' := .int) (by decide) (by decide)))
  have F283 : Fld Z h260 o0 "com/example/ample_queue/amplequeue/protocol/Frame" "language" "Ljava/lang/String;" (.ref o1) := F235.other W261 (Or.inr (slot_ne (Or.inr (hw _ (List.mem_of_getElem? (i := 79) rfl))) (Or.inr (hw _ (List.mem_of_getElem? (i := 81) rfl))) (by decide) (t := (.object "java/lang/String")) (t' := .int) (by decide) (by decide)))
  have sz284 : n0 ≤ h260.size := Nat.le_trans sz257 (Nat.le_of_eq W261.size.symm)
  have sy285 : h0.size ≤ h260.size := Nat.le_trans sy258 (Nat.le_of_eq W261.size.symm)
  have K286 := K259.wr W261 (Or.inl (by simp))
  show Wk _ p l e _ s m _ below meth c n0 _ h260 4 48 (mkF m 52 #[.val (.ref o0), .val (.int x0), .val (.ref o1), .val (.int x1), .val (.int x2), .val (.int x3), .val .null] [])
  refine Wk.st (g' := (mkF m 53 #[.val (.ref o0), .val (.int x0), .val (.ref o1), .val (.int x1), .val (.int x2), .val (.int x3), .val .null] [(.ref o0)])) (fun X t q => XS.aloadN X.here C.hx rfl (hb C.hby d6_52) rfl rfl q) ?_
  refine Wk.st (g' := (mkF m 55 #[.val (.ref o0), .val (.int x0), .val (.ref o1), .val (.int x1), .val (.int x2), .val (.int x3), .val .null] [(.int x2), (.ref o0)])) (fun X t q => XS.iload X.here C.hx rfl (hb C.hby d6_53) rfl q) ?_
  obtain ⟨vq288, F287⟩ := fld_laid F268 (fld_known F269) (hw _ (List.mem_of_getElem? (i := 27) rfl)) (Or.inl (hw _ (List.mem_of_getElem? (i := 83) rfl)))
  refine Wk.putF C (hw _ (List.mem_of_getElem? (i := 82) rfl)) Via.refl F287 F268 (Or.inl (hw _ (List.mem_of_getElem? (i := 83) rfl))) (hw _ (List.mem_of_getElem? (i := 27) rfl)) (ty := .int) (by decide) (v' := (.int x2)) rfl rfl G_o0 d6_55 ?_
  intro h289 W290
  have F291 : Exa Z h289 o1 "java/lang/String" := F263.wr W290
  have F292 : Exa Z h289 o2 "[B" := F264.wr W290
  have F293 : Fa Z h289 o2 .byte 1 (up (fun _ => (.int (0 : Int32))) 0 (.int x4)) := F265.other W290 (Ne.symm N_o0_o2)
  have F294 : Fld Z h289 o1 "java/lang/String" "value" "[B" (.ref o2) := F266.other W290 (Or.inl (Ne.symm N_o0_o1))
  have F295 : Fld Z h289 o1 "java/lang/String" "coder" "B" (.int (0 : Int32)) := F267.other W290 (Or.inl (Ne.symm N_o0_o1))
  have F296 : Exa Z h289 o0 "com/example/ample_queue/amplequeue/protocol/Frame" := F268.wr W290
  have F297 : Fld Z h289 o0 "com/example/ample_queue/amplequeue/protocol/Frame" "flag" "I" (.int (0 : Int32)) := F269.other W290 (Or.inr (slot_ne (Or.inr (hw _ (List.mem_of_getElem? (i := 85) rfl))) (Or.inl (hw _ (List.mem_of_getElem? (i := 83) rfl))) (by decide) (t := .int) (t' := .int) (by decide) (by decide)))
  have F298 : Fld Z h289 o0 "com/example/ample_queue/amplequeue/protocol/Frame" "remark" "Ljava/lang/String;" .null := F270.other W290 (Or.inr (slot_ne (Or.inr (hw _ (List.mem_of_getElem? (i := 87) rfl))) (Or.inl (hw _ (List.mem_of_getElem? (i := 83) rfl))) (by decide) (t := (.object "java/lang/String")) (t' := .int) (by decide) (by decide)))
  have F299 : Exa Z h289 b2 "java/util/LinkedHashMap" := F271.wr W290
  have F300 : Sta Z h289 "java/lang/String" "COMPACT_STRINGS" "Z" (.int x5) := F272.wr W290
  have F301 : Sta Z h289 "com/example/ample_queue/amplequeue/protocol/HeaderEncoding" "JSON" "Lcom/example/ample_queue/amplequeue/protocol/HeaderEncoding;" (.ref o3) := F273.wr W290
  have F302 : Fld Z h289 b2 "java/util/HashMap" "loadFactor" "F" (.float (1061158912 : UInt32)) := F274.other W290 (Or.inl (Ne.symm ne9))
  have F303 : Fld Z h289 b2 "java/util/LinkedHashMap" "putMode" "I" (.int (0 : Int32)) := F275.other W290 (Or.inl (Ne.symm ne9))
  have F304 : Fld Z h289 b2 "java/util/LinkedHashMap" "accessOrder" "Z" (.int (0 : Int32)) := F276.other W290 (Or.inl (Ne.symm ne9))
  have F305 : Fld Z h289 o0 "com/example/ample_queue/amplequeue/protocol/Frame" "extFields" "Ljava/util/Map;" (.ref b2) := F277.other W290 (Or.inr (slot_ne (Or.inr (hw _ (List.mem_of_getElem? (i := 60) rfl))) (Or.inl (hw _ (List.mem_of_getElem? (i := 83) rfl))) (by decide) (t := (.object "java/util/Map")) (t' := .int) (by decide) (by decide)))
  have F306 : Exa Z h289 b86 "[B" := F278.wr W290
  have F307 : Fa Z h289 b86 .byte 0 (fun _ => (.int (0 : Int32))) := F279.other W290 (Ne.symm ne93)
  have F308 : Fld Z h289 o0 "com/example/ample_queue/amplequeue/protocol/Frame" "body" "[B" (.ref b86) := F280.other W290 (Or.inr (slot_ne (Or.inl (hw _ (List.mem_of_getElem? (i := 62) rfl))) (Or.inl (hw _ (List.mem_of_getElem? (i := 83) rfl))) (by decide) (t := (.array .byte)) (t' := .int) (by decide) (by decide)))
  have F309 : Fld Z h289 o0 "com/example/ample_queue/amplequeue/protocol/Frame" "headerEncoding" "Lcom/example/ample_queue/amplequeue/protocol/HeaderEncoding;" (.ref o3) := F281.other W290 (Or.inr (slot_ne (Or.inl (hw _ (List.mem_of_getElem? (i := 67) rfl))) (Or.inl (hw _ (List.mem_of_getElem? (i := 83) rfl))) (by decide) (t := (.object "com/example/ample_queue/amplequeue/protocol/HeaderEncoding")) (t' := .int) (by decide) (by decide)))
  have F310 : Fld Z h289 o0 "com/example/ample_queue/amplequeue/protocol/Frame" "code" "I" (.int x0) := F282.other W290 (Or.inr (slot_ne (Or.inr (hw _ (List.mem_of_getElem? (i := 69) rfl))) (Or.inl (hw _ (List.mem_of_getElem? (i := 83) rfl))) (by decide) (t := .int) (t' := .int) (by decide) (by decide)))
  have F311 : Fld Z h289 o0 "com/example/ample_queue/amplequeue/protocol/Frame" "language" "Ljava/lang/String;" (.ref o1) := F283.other W290 (Or.inr (slot_ne (Or.inr (hw _ (List.mem_of_getElem? (i := 79) rfl))) (Or.inl (hw _ (List.mem_of_getElem? (i := 83) rfl))) (by decide) (t := (.object "java/lang/String")) (t' := .int) (by decide) (by decide)))
  have F312 : Fld Z h289 o0 "com/example/ample_queue/amplequeue/protocol/Frame" "version" "I" (.int x1) := F262.other W290 (Or.inr (slot_ne (Or.inr (hw _ (List.mem_of_getElem? (i := 81) rfl))) (Or.inl (hw _ (List.mem_of_getElem? (i := 83) rfl))) (by decide) (t := .int) (t' := .int) (by decide) (by decide)))
  have sz313 : n0 ≤ h289.size := Nat.le_trans sz284 (Nat.le_of_eq W290.size.symm)
  have sy314 : h0.size ≤ h289.size := Nat.le_trans sy285 (Nat.le_of_eq W290.size.symm)
  have K315 := K286.wr W290 (Or.inl (by simp))
  show Wk _ p l e _ s m _ below meth c n0 _ h289 4 48 (mkF m 58 #[.val (.ref o0), .val (.int x0), .val (.ref o1), .val (.int x1), .val (.int x2), .val (.int x3), .val .null] [])
  refine Wk.st (g' := (mkF m 59 #[.val (.ref o0), .val (.int x0), .val (.ref o1), .val (.int x1), .val (.int x2), .val (.int x3), .val .null] [(.ref o0)])) (fun X t q => XS.aloadN X.here C.hx rfl (hb C.hby d6_58) rfl rfl q) ?_
  refine Wk.st (g' := (mkF m 61 #[.val (.ref o0), .val (.int x0), .val (.ref o1), .val (.int x1), .val (.int x2), .val (.int x3), .val .null] [(.int x3), (.ref o0)])) (fun X t q => XS.iload X.here C.hx rfl (hb C.hby d6_59) rfl q) ?_
  refine Wk.putF C (hw _ (List.mem_of_getElem? (i := 84) rfl)) Via.refl F297 F296 (Or.inr ⟨(hw _ (List.mem_of_getElem? (i := 85) rfl)), rfl, rfl⟩) (hw _ (List.mem_of_getElem? (i := 27) rfl)) (ty := .int) (by decide) (v' := (.int x3)) rfl rfl G_o0 d6_61 ?_
  intro h316 W317
  have F318 : Fld Z h316 o0 "com/example/ample_queue/amplequeue/protocol/Frame" "flag" "I" (.int x3) := F297.same W317
  have F319 : Exa Z h316 o1 "java/lang/String" := F291.wr W317
  have F320 : Exa Z h316 o2 "[B" := F292.wr W317
  have F321 : Fa Z h316 o2 .byte 1 (up (fun _ => (.int (0 : Int32))) 0 (.int x4)) := F293.other W317 (Ne.symm N_o0_o2)
  have F322 : Fld Z h316 o1 "java/lang/String" "value" "[B" (.ref o2) := F294.other W317 (Or.inl (Ne.symm N_o0_o1))
  have F323 : Fld Z h316 o1 "java/lang/String" "coder" "B" (.int (0 : Int32)) := F295.other W317 (Or.inl (Ne.symm N_o0_o1))
  have F324 : Exa Z h316 o0 "com/example/ample_queue/amplequeue/protocol/Frame" := F296.wr W317
  have F325 : Fld Z h316 o0 "com/example/ample_queue/amplequeue/protocol/Frame" "remark" "Ljava/lang/String;" .null := F298.other W317 (Or.inr (slot_ne (Or.inr (hw _ (List.mem_of_getElem? (i := 87) rfl))) (Or.inr (hw _ (List.mem_of_getElem? (i := 85) rfl))) (by decide) (t := (.object "java/lang/String")) (t' := .int) (by decide) (by decide)))
  have F326 : Exa Z h316 b2 "java/util/LinkedHashMap" := F299.wr W317
  have F327 : Sta Z h316 "java/lang/String" "COMPACT_STRINGS" "Z" (.int x5) := F300.wr W317
  have F328 : Sta Z h316 "com/example/ample_queue/amplequeue/protocol/HeaderEncoding" "JSON" "Lcom/example/ample_queue/amplequeue/protocol/HeaderEncoding;" (.ref o3) := F301.wr W317
  have F329 : Fld Z h316 b2 "java/util/HashMap" "loadFactor" "F" (.float (1061158912 : UInt32)) := F302.other W317 (Or.inl (Ne.symm ne9))
  have F330 : Fld Z h316 b2 "java/util/LinkedHashMap" "putMode" "I" (.int (0 : Int32)) := F303.other W317 (Or.inl (Ne.symm ne9))
  have F331 : Fld Z h316 b2 "java/util/LinkedHashMap" "accessOrder" "Z" (.int (0 : Int32)) := F304.other W317 (Or.inl (Ne.symm ne9))
  have F332 : Fld Z h316 o0 "com/example/ample_queue/amplequeue/protocol/Frame" "extFields" "Ljava/util/Map;" (.ref b2) := F305.other W317 (Or.inr (slot_ne (Or.inr (hw _ (List.mem_of_getElem? (i := 60) rfl))) (Or.inr (hw _ (List.mem_of_getElem? (i := 85) rfl))) (by decide) (t := (.object "java/util/Map")) (t' := .int) (by decide) (by decide)))
  have F333 : Exa Z h316 b86 "[B" := F306.wr W317
  have F334 : Fa Z h316 b86 .byte 0 (fun _ => (.int (0 : Int32))) := F307.other W317 (Ne.symm ne93)
  have F335 : Fld Z h316 o0 "com/example/ample_queue/amplequeue/protocol/Frame" "body" "[B" (.ref b86) := F308.other W317 (Or.inr (slot_ne (Or.inl (hw _ (List.mem_of_getElem? (i := 62) rfl))) (Or.inr (hw _ (List.mem_of_getElem? (i := 85) rfl))) (by decide) (t := (.array .byte)) (t' := .int) (by decide) (by decide)))
  have F336 : Fld Z h316 o0 "com/example/ample_queue/amplequeue/protocol/Frame" "headerEncoding" "Lcom/example/ample_queue/amplequeue/protocol/HeaderEncoding;" (.ref o3) := F309.other W317 (Or.inr (slot_ne (Or.inl (hw _ (List.mem_of_getElem? (i := 67) rfl))) (Or.inr (hw _ (List.mem_of_getElem? (i := 85) rfl))) (by decide) (t := (.object "com/example/ample_queue/amplequeue/protocol/HeaderEncoding")) (t' := .int) (by decide) (by decide)))
  have F337 : Fld Z h316 o0 "com/example/ample_queue/amplequeue/protocol/Frame" "code" "I" (.int x0) := F310.other W317 (Or.inr (slot_ne (Or.inr (hw _ (List.mem_of_getElem? (i := 69) rfl))) (Or.inr (hw _ (List.mem_of_getElem? (i := 85) rfl))) (by decide) (t := .int) (t' := .int) (by decide) (by decide)))
  have F338 : Fld Z h316 o0 "com/example/ample_queue/amplequeue/protocol/Frame" "language" "Ljava/lang/String;" (.ref o1) := F311.other W317 (Or.inr (slot_ne (Or.inr (hw _ (List.mem_of_getElem? (i := 79) rfl))) (Or.inr (hw _ (List.mem_of_getElem? (i := 85) rfl))) (by decide) (t := (.object "java/lang/String")) (t' := .int) (by decide) (by decide)))
  have F339 : Fld Z h316 o0 "com/example/ample_queue/amplequeue/protocol/Frame" "version" "I" (.int x1) := F312.other W317 (Or.inr (slot_ne (Or.inr (hw _ (List.mem_of_getElem? (i := 81) rfl))) (Or.inr (hw _ (List.mem_of_getElem? (i := 85) rfl))) (by decide) (t := .int) (t' := .int) (by decide) (by decide)))
  have sz340 : n0 ≤ h316.size := Nat.le_trans sz313 (Nat.le_of_eq W317.size.symm)
  have sy341 : h0.size ≤ h316.size := Nat.le_trans sy314 (Nat.le_of_eq W317.size.symm)
  have K342 := K315.wr W317 (Or.inl (by simp))
  show Wk _ p l e _ s m _ below meth c n0 _ h316 4 48 (mkF m 64 #[.val (.ref o0), .val (.int x0), .val (.ref o1), .val (.int x1), .val (.int x2), .val (.int x3), .val .null] [])
  refine Wk.st (g' := (mkF m 65 #[.val (.ref o0), .val (.int x0), .val (.ref o1), .val (.int x1), .val (.int x2), .val (.int x3), .val .null] [(.ref o0)])) (fun X t q => XS.aloadN X.here C.hx rfl (hb C.hby d6_64) rfl rfl q) ?_
  refine Wk.st (g' := (mkF m 67 #[.val (.ref o0), .val (.int x0), .val (.ref o1), .val (.int x1), .val (.int x2), .val (.int x3), .val .null] [.null, (.ref o0)])) (fun X t q => XS.aload X.here C.hx rfl (hb C.hby d6_65) rfl rfl q) ?_
  refine Wk.putF C (hw _ (List.mem_of_getElem? (i := 86) rfl)) Via.refl F325 F324 (Or.inr ⟨(hw _ (List.mem_of_getElem? (i := 87) rfl)), rfl, rfl⟩) (hw _ (List.mem_of_getElem? (i := 27) rfl)) (ty := (.object "java/lang/String")) (by decide) (v' := .null) rfl rfl G_o0 d6_67 ?_
  intro h343 W344
  have F345 : Fld Z h343 o0 "com/example/ample_queue/amplequeue/protocol/Frame" "remark" "Ljava/lang/String;" .null := F325.same W344
  have F346 : Exa Z h343 o1 "java/lang/String" := F319.wr W344
  have F347 : Exa Z h343 o2 "[B" := F320.wr W344
  have F348 : Fa Z h343 o2 .byte 1 (up (fun _ => (.int (0 : Int32))) 0 (.int x4)) := F321.other W344 (Ne.symm N_o0_o2)
  have F349 : Fld Z h343 o1 "java/lang/String" "value" "[B" (.ref o2) := F322.other W344 (Or.inl (Ne.symm N_o0_o1))
  have F350 : Fld Z h343 o1 "java/lang/String" "coder" "B" (.int (0 : Int32)) := F323.other W344 (Or.inl (Ne.symm N_o0_o1))
  have F351 : Exa Z h343 o0 "com/example/ample_queue/amplequeue/protocol/Frame" := F324.wr W344
  have F352 : Exa Z h343 b2 "java/util/LinkedHashMap" := F326.wr W344
  have F353 : Sta Z h343 "java/lang/String" "COMPACT_STRINGS" "Z" (.int x5) := F327.wr W344
  have F354 : Sta Z h343 "com/example/ample_queue/amplequeue/protocol/HeaderEncoding" "JSON" "Lcom/example/ample_queue/amplequeue/protocol/HeaderEncoding;" (.ref o3) := F328.wr W344
  have F355 : Fld Z h343 b2 "java/util/HashMap" "loadFactor" "F" (.float (1061158912 : UInt32)) := F329.other W344 (Or.inl (Ne.symm ne9))
  have F356 : Fld Z h343 b2 "java/util/LinkedHashMap" "putMode" "I" (.int (0 : Int32)) := F330.other W344 (Or.inl (Ne.symm ne9))
  have F357 : Fld Z h343 b2 "java/util/LinkedHashMap" "accessOrder" "Z" (.int (0 : Int32)) := F331.other W344 (Or.inl (Ne.symm ne9))
  have F358 : Fld Z h343 o0 "com/example/ample_queue/amplequeue/protocol/Frame" "extFields" "Ljava/util/Map;" (.ref b2) := F332.other W344 (Or.inr (slot_ne (Or.inr (hw _ (List.mem_of_getElem? (i := 60) rfl))) (Or.inr (hw _ (List.mem_of_getElem? (i := 87) rfl))) (by decide) (t := (.object "java/util/Map")) (t' := (.object "java/lang/String")) (by decide) (by decide)))
  have F359 : Exa Z h343 b86 "[B" := F333.wr W344
  have F360 : Fa Z h343 b86 .byte 0 (fun _ => (.int (0 : Int32))) := F334.other W344 (Ne.symm ne93)
  have F361 : Fld Z h343 o0 "com/example/ample_queue/amplequeue/protocol/Frame" "body" "[B" (.ref b86) := F335.other W344 (Or.inr (slot_ne (Or.inl (hw _ (List.mem_of_getElem? (i := 62) rfl))) (Or.inr (hw _ (List.mem_of_getElem? (i := 87) rfl))) (by decide) (t := (.array .byte)) (t' := (.object "java/lang/String")) (by decide) (by decide)))
  have F362 : Fld Z h343 o0 "com/example/ample_queue/amplequeue/protocol/Frame" "headerEncoding" "Lcom/example/ample_queue/amplequeue/protocol/HeaderEncoding;" (.ref o3) := F336.other W344 (Or.inr (slot_ne (Or.inl (hw _ (List.mem_of_getElem? (i := 67) rfl))) (Or.inr (hw _ (List.mem_of_getElem? (i := 87) rfl))) (by decide) (t := (.object "com/example/ample_queue/amplequeue/protocol/HeaderEncoding")) (t' := (.object "java/lang/String")) (by decide) (by decide)))
  have F363 : Fld Z h343 o0 "com/example/ample_queue/amplequeue/protocol/Frame" "code" "I" (.int x0) := F337.other W344 (Or.inr (slot_ne (Or.inr (hw _ (List.mem_of_getElem? (i := 69) rfl))) (Or.inr (hw _ (List.mem_of_getElem? (i := 87) rfl))) (by decide) (t := .int) (t' := (.object "java/lang/String")) (by decide) (by decide)))
  have F364 : Fld Z h343 o0 "com/example/ample_queue/amplequeue/protocol/Frame" "language" "Ljava/lang/String;" (.ref o1) := F338.other W344 (Or.inr (slot_ne (Or.inr (hw _ (List.mem_of_getElem? (i := 79) rfl))) (Or.inr (hw _ (List.mem_of_getElem? (i := 87) rfl))) (by decide) (t := (.object "java/lang/String")) (t' := (.object "java/lang/String")) (by decide) (by decide)))
  have F365 : Fld Z h343 o0 "com/example/ample_queue/amplequeue/protocol/Frame" "version" "I" (.int x1) := F339.other W344 (Or.inr (slot_ne (Or.inr (hw _ (List.mem_of_getElem? (i := 81) rfl))) (Or.inr (hw _ (List.mem_of_getElem? (i := 87) rfl))) (by decide) (t := .int) (t' := (.object "java/lang/String")) (by decide) (by decide)))
  have F366 : Fld Z h343 o0 "com/example/ample_queue/amplequeue/protocol/Frame" "flag" "I" (.int x3) := F318.other W344 (Or.inr (slot_ne (Or.inr (hw _ (List.mem_of_getElem? (i := 85) rfl))) (Or.inr (hw _ (List.mem_of_getElem? (i := 87) rfl))) (by decide) (t := .int) (t' := (.object "java/lang/String")) (by decide) (by decide)))
  have sz367 : n0 ≤ h343.size := Nat.le_trans sz340 (Nat.le_of_eq W344.size.symm)
  have sy368 : h0.size ≤ h343.size := Nat.le_trans sy341 (Nat.le_of_eq W344.size.symm)
  have K369 := K342.wr W344 (Or.inl (by simp))
  show Wk _ p l e _ s m _ below meth c n0 _ h343 4 48 (mkF m 70 #[.val (.ref o0), .val (.int x0), .val (.ref o1), .val (.int x1), .val (.int x2), .val (.int x3), .val .null] [])
  exact Wk.retN0 C rfl d6_70 (by decide) (by decide) ⟨b2, b86, rfl, K369, gz11, gz96, ne94, F352, F353, F354, F355, F356, F357, F358, F359, F360, F361, F362, F363, F364, F365, F366, F345⟩
set_option maxRecDepth 65536 in
set_option maxHeartbeats 40000000 in
theorem law_met (l : Launch) (Z : State) (a0 : Array Value) (hw : ∀ d ∈ tables_1, d.before a0 Z = true) (n0 : Nat) (h0 : Heap) (hsz : n0 ≤ h0.size) (i0 i1 i2 i3 i4 cs : Int32) (s_J : Addr) (SC : Sta Z h0 "java/lang/String" "COMPACT_STRINGS" "Z" (.int cs)) (SJ : Sta Z h0 "com/example/ample_queue/amplequeue/protocol/HeaderEncoding" "JSON" "Lcom/example/ample_queue/amplequeue/protocol/HeaderEncoding;" (.ref s_J)) (hcs : ¬ cs = (0 : Int32)) :
    Met true l Z n0 x code maxLocals ret room_1 #[(.int i0), (.int i1), (.int i2), (.int i3), (.int i4)] h0 (fun v _ => v = some (.int 1) ∧ True) := by
  refine Met.of pn_7 #[.val (.int i0), .val (.int i1), .val (.int i2), .val (.int i3), .val (.int i4), .unset, .unset, .unset] (fun m => by first | (simp [entryFrame, mkF, argsToLocals, Value.category, maxLocals]; done) | rfl) ?_
  intro p e s m below meth c C
  refine Wk.st (g' := (mkF m 2 #[.val (.int i0), .val (.int i1), .val (.int i2), .val (.int i3), .val (.int i4), .unset, .unset, .unset] [(.int i4)])) (fun X t q => XS.iload X.here C.hx rfl (hb C.hby at_0) rfl q) ?_
  refine Wk.st (g' := (mkF m 5 #[.val (.int i0), .val (.int i1), .val (.int i2), .val (.int i3), .val (.int i4), .unset, .unset, .unset] [(.int (255 : Int32)), (.int i4)])) (fun X t q => XS.sipush X.here C.hx rfl (hb C.hby at_2) q) ?_
  refine Wk.st (g' := (mkF m 6 #[.val (.int i0), .val (.int i1), .val (.int i2), .val (.int i3), .val (.int i4), .unset, .unset, .unset] [(.int (i4 &&& (255 : Int32)))])) (fun X t q => XS.iand X.here C.hx rfl (hb C.hby at_5) rfl q) ?_
  refine Wk.st (g' := (mkF m 7 #[.val (.int i0), .val (.int i1), .val (.int i2), .val (.int i3), .val (.int i4), .unset, .unset, .unset] [(.int ((i4 &&& (255 : Int32)).toUInt32.toUInt16.toUInt32.toInt32))])) (fun X t q => XS.i2c X.here C.hx rfl (hb C.hby at_6) rfl q) ?_
  refine Wk.callS C (z := (⟨"java/lang/String", "valueOf", "(C)Ljava/lang/String;"⟩ : MethodName)) (hw _ (List.mem_of_getElem? (i := 0) rfl)) (hw _ (List.mem_of_getElem? (i := 1) rfl)) (hw _ (List.mem_of_getElem? (i := 2) rfl)) (hw _ (List.mem_of_getElem? (i := 3) rfl)) (by decide) (own_1_1 l Z a0 hw n0 h0 hsz s_J ((i4 &&& (255 : Int32)).toUInt32.toUInt16.toUInt32.toInt32) cs SC SJ   (lat i4) hcs) (w := 0) (by decide) (by decide) pd_0 rfl (rest := []) rfl rfl (Nat.le_of_eq rfl) (by decide) (by decide) at_7 ?_
  rintro _ h2 ⟨n1_b6, n1_n20_b2, rfl, K3, gn11, gn12, ne13, F4, F5, F6, F7, F8, F9, F10⟩
  show Wk _ p l e _ s m _ below meth c n0 _ h2 2 5 (mkF m 10 #[.val (.int i0), .val (.int i1), .val (.int i2), .val (.int i3), .val (.int i4), .unset, .unset, .unset] [(.ref n1_b6)])
  have ge14 : n0 ≤ n1_b6 := Nat.le_trans hsz gn11
  have gz15 : h0.size ≤ n1_b6 := Nat.le_trans (Nat.le_refl h0.size) gn11
  have ge16 : n0 ≤ n1_n20_b2 := Nat.le_trans hsz gn12
  have gz17 : h0.size ≤ n1_n20_b2 := Nat.le_trans (Nat.le_refl h0.size) gn12
  have sz18 : n0 ≤ h2.size := Nat.le_trans hsz K3.1
  have sy19 : h0.size ≤ h2.size := Nat.le_trans (Nat.le_refl h0.size) K3.1
  refine Wk.st (g' := (mkF m 12 #[.val (.int i0), .val (.int i1), .val (.int i2), .val (.int i3), .val (.int i4), .val (.ref n1_b6), .unset, .unset] [])) (fun X t q => XS.astore X.here C.hx rfl (hb C.hby at_10) rfl rfl (l' := #[.val (.int i0), .val (.int i1), .val (.int i2), .val (.int i3), .val (.int i4), .val (.ref n1_b6), .unset, .unset]) rfl q) ?_
  refine Wk.newO C (hw _ (List.mem_of_getElem? (i := 26) rfl)) (hw _ (List.mem_of_getElem? (i := 27) rfl)) (hw _ (List.mem_of_getElem? (i := 28) rfl)) at_12 (by decide) (by decide) ?_
  intro h20 b21 g22 E23 A24 D25
  have ne26 : n1_b6 ≠ b21 := Nat.ne_of_lt (Nat.lt_of_lt_of_le F4.lt (Nat.le_of_eq g22.symm))
  have ne27 : n1_n20_b2 ≠ b21 := Nat.ne_of_lt (Nat.lt_of_lt_of_le F5.lt (Nat.le_of_eq g22.symm))
  have ge28 : n0 ≤ b21 := Nat.le_trans sz18 (Nat.le_of_eq g22.symm)
  have gz29 : h0.size ≤ b21 := Nat.le_trans sy19 (Nat.le_of_eq g22.symm)
  have F30 : Exa Z h20 n1_b6 "java/lang/String" := F4.ext E23
  have F31 : Exa Z h20 n1_n20_b2 "[B" := F5.ext E23
  have F32 : Fa Z h20 n1_n20_b2 .byte 1 (up (fun _ => (.int (0 : Int32))) 0 (.int (nar .byte (((i4 &&& (255 : Int32)).toUInt32.toUInt16.toUInt32.toInt32).toInt8.toInt32)))) := F6.ext E23
  have F33 : Sta Z h20 "java/lang/String" "COMPACT_STRINGS" "Z" (.int cs) := F7.ext E23
  have F34 : Sta Z h20 "com/example/ample_queue/amplequeue/protocol/HeaderEncoding" "JSON" "Lcom/example/ample_queue/amplequeue/protocol/HeaderEncoding;" (.ref s_J) := F8.ext E23
  have F35 : Fld Z h20 n1_b6 "java/lang/String" "value" "[B" (.ref n1_n20_b2) := F9.ext E23
  have F36 : Fld Z h20 n1_b6 "java/lang/String" "coder" "B" (.int (0 : Int32)) := F10.ext E23
  have sz37 : n0 ≤ h20.size := Nat.le_trans sz18 E23.1
  have sy38 : h0.size ≤ h20.size := Nat.le_trans sy19 E23.1
  have F39 : Fld Z h20 b21 "com/example/ample_queue/amplequeue/protocol/Frame" "extFields" "Ljava/util/Map;" .null := D25 (Or.inr (hw _ (List.mem_of_getElem? (i := 60) rfl))) (ty := (.object "java/util/Map")) (by decide)
  have F40 : Fld Z h20 b21 "com/example/ample_queue/amplequeue/protocol/Frame" "body" "[B" .null := D25 (Or.inl (hw _ (List.mem_of_getElem? (i := 62) rfl))) (ty := (.array .byte)) (by decide)
  have F41 : Fld Z h20 b21 "com/example/ample_queue/amplequeue/protocol/Frame" "headerEncoding" "Lcom/example/ample_queue/amplequeue/protocol/HeaderEncoding;" .null := D25 (Or.inl (hw _ (List.mem_of_getElem? (i := 67) rfl))) (ty := (.object "com/example/ample_queue/amplequeue/protocol/HeaderEncoding")) (by decide)
  have F42 : Fld Z h20 b21 "com/example/ample_queue/amplequeue/protocol/Frame" "code" "I" (.int (0 : Int32)) := D25 (Or.inr (hw _ (List.mem_of_getElem? (i := 69) rfl))) (ty := .int) (by decide)
  have F43 : Fld Z h20 b21 "com/example/ample_queue/amplequeue/protocol/Frame" "language" "Ljava/lang/String;" .null := D25 (Or.inr (hw _ (List.mem_of_getElem? (i := 79) rfl))) (ty := (.object "java/lang/String")) (by decide)
  have F44 : Fld Z h20 b21 "com/example/ample_queue/amplequeue/protocol/Frame" "version" "I" (.int (0 : Int32)) := D25 (Or.inr (hw _ (List.mem_of_getElem? (i := 81) rfl))) (ty := .int) (by decide)
  have F45 : Fld Z h20 b21 "com/example/ample_queue/amplequeue/protocol/Frame" "flag" "I" (.int (0 : Int32)) := D25 (Or.inr (hw _ (List.mem_of_getElem? (i := 85) rfl))) (ty := .int) (by decide)
  have F46 : Fld Z h20 b21 "com/example/ample_queue/amplequeue/protocol/Frame" "remark" "Ljava/lang/String;" .null := D25 (Or.inr (hw _ (List.mem_of_getElem? (i := 87) rfl))) (ty := (.object "java/lang/String")) (by decide)
  show Wk _ p l e _ s m _ below meth c n0 _ h20 3 14 (mkF m 15 #[.val (.int i0), .val (.int i1), .val (.int i2), .val (.int i3), .val (.int i4), .val (.ref n1_b6), .unset, .unset] [(.ref b21)])
  refine Wk.st (g' := (mkF m 16 #[.val (.int i0), .val (.int i1), .val (.int i2), .val (.int i3), .val (.int i4), .val (.ref n1_b6), .unset, .unset] [(.ref b21), (.ref b21)])) (fun X t q => XS.dup X.here C.hx rfl (hb C.hby at_15) rfl rfl q) ?_
  refine Wk.st (g' := (mkF m 17 #[.val (.int i0), .val (.int i1), .val (.int i2), .val (.int i3), .val (.int i4), .val (.ref n1_b6), .unset, .unset] [(.int i0), (.ref b21), (.ref b21)])) (fun X t q => XS.iloadN X.here C.hx rfl (hb C.hby at_16) rfl q) ?_
  refine Wk.st (g' := (mkF m 19 #[.val (.int i0), .val (.int i1), .val (.int i2), .val (.int i3), .val (.int i4), .val (.ref n1_b6), .unset, .unset] [(.ref n1_b6), (.int i0), (.ref b21), (.ref b21)])) (fun X t q => XS.aload X.here C.hx rfl (hb C.hby at_17) rfl rfl q) ?_
  refine Wk.st (g' := (mkF m 20 #[.val (.int i0), .val (.int i1), .val (.int i2), .val (.int i3), .val (.int i4), .val (.ref n1_b6), .unset, .unset] [(.int i1), (.ref n1_b6), (.int i0), (.ref b21), (.ref b21)])) (fun X t q => XS.iloadN X.here C.hx rfl (hb C.hby at_19) rfl q) ?_
  refine Wk.st (g' := (mkF m 21 #[.val (.int i0), .val (.int i1), .val (.int i2), .val (.int i3), .val (.int i4), .val (.ref n1_b6), .unset, .unset] [(.int i2), (.int i1), (.ref n1_b6), (.int i0), (.ref b21), (.ref b21)])) (fun X t q => XS.iloadN X.here C.hx rfl (hb C.hby at_20) rfl q) ?_
  refine Wk.st (g' := (mkF m 22 #[.val (.int i0), .val (.int i1), .val (.int i2), .val (.int i3), .val (.int i4), .val (.ref n1_b6), .unset, .unset] [(.int i3), (.int i2), (.int i1), (.ref n1_b6), (.int i0), (.ref b21), (.ref b21)])) (fun X t q => XS.iloadN X.here C.hx rfl (hb C.hby at_21) rfl q) ?_
  refine Wk.st (g' := (mkF m 23 #[.val (.int i0), .val (.int i1), .val (.int i2), .val (.int i3), .val (.int i4), .val (.ref n1_b6), .unset, .unset] [.null, (.int i3), (.int i2), (.int i1), (.ref n1_b6), (.int i0), (.ref b21), (.ref b21)])) (fun X t q => XS.aconstNull X.here C.hx rfl (hb C.hby at_22) q) ?_
  refine Wk.callI C (z := (⟨"com/example/ample_queue/amplequeue/protocol/Frame", "<init>", "(ILjava/lang/String;IIILjava/lang/String;)V"⟩ : MethodName)) rfl (hw _ (List.mem_of_getElem? (i := 29) rfl)) (hw _ (List.mem_of_getElem? (i := 30) rfl)) (hw _ (List.mem_of_getElem? (i := 28) rfl)) (hw _ (List.mem_of_getElem? (i := 31) rfl)) (by decide) (own_6_5 l Z a0 hw n0 h20 sz37 b21 n1_b6 n1_n20_b2 s_J i0 i1 i2 i3 (nar .byte (((i4 &&& (255 : Int32)).toUInt32.toUInt16.toUInt32.toInt32).toInt8.toInt32)) cs F30 F31 F32 F33 F34 F35 F36 A24 F39 F40 F41 F42 F43 F44 F45 F46 (Ne.symm ne26) (Ne.symm ne27) ne13 ge28 ge14 ge16) (w := 1) (by decide) (by decide) pd_4 rfl (rest := [(.ref b21)]) rfl rfl (Nat.le_of_eq rfl) (by decide) (by decide) at_23 ?_
  rintro _ h48 ⟨n47_b2, n47_b86, rfl, K49, gn66, gn67, ne68, F50, F51, F52, F53, F54, F55, F56, F57, F58, F59, F60, F61, F62, F63, F64, F65⟩
  show Wk _ p l e _ s m _ below meth c n0 _ h48 7 62 (mkF m 26 #[.val (.int i0), .val (.int i1), .val (.int i2), .val (.int i3), .val (.int i4), .val (.ref n1_b6), .unset, .unset] [(.ref b21)])
  have ne69 : n1_b6 ≠ n47_b2 := Nat.ne_of_lt (Nat.lt_of_lt_of_le F30.lt gn66)
  have ne70 : n1_n20_b2 ≠ n47_b2 := Nat.ne_of_lt (Nat.lt_of_lt_of_le F31.lt gn66)
  have ne71 : b21 ≠ n47_b2 := Nat.ne_of_lt (Nat.lt_of_lt_of_le A24.lt gn66)
  have ge72 : n0 ≤ n47_b2 := Nat.le_trans sz37 gn66
  have gz73 : h0.size ≤ n47_b2 := Nat.le_trans sy38 gn66
  have ne74 : n1_b6 ≠ n47_b86 := Nat.ne_of_lt (Nat.lt_of_lt_of_le F30.lt gn67)
  have ne75 : n1_n20_b2 ≠ n47_b86 := Nat.ne_of_lt (Nat.lt_of_lt_of_le F31.lt gn67)
  have ne76 : b21 ≠ n47_b86 := Nat.ne_of_lt (Nat.lt_of_lt_of_le A24.lt gn67)
  have ge77 : n0 ≤ n47_b86 := Nat.le_trans sz37 gn67
  have gz78 : h0.size ≤ n47_b86 := Nat.le_trans sy38 gn67
  have F79 : Exa Z h48 n1_b6 "java/lang/String" := F30.keep K49
  have F80 : Exa Z h48 n1_n20_b2 "[B" := F31.keep K49
  have F81 : Fa Z h48 n1_n20_b2 .byte 1 (up (fun _ => (.int (0 : Int32))) 0 (.int (nar .byte (((i4 &&& (255 : Int32)).toUInt32.toUInt16.toUInt32.toInt32).toInt8.toInt32)))) := F32.keep K49 (nmS ne27 nm0)
  have F82 : Fld Z h48 n1_b6 "java/lang/String" "value" "[B" (.ref n1_n20_b2) := F35.keep K49 (nmS ne26 nm0)
  have F83 : Fld Z h48 n1_b6 "java/lang/String" "coder" "B" (.int (0 : Int32)) := F36.keep K49 (nmS ne26 nm0)
  have F84 : Exa Z h48 b21 "com/example/ample_queue/amplequeue/protocol/Frame" := A24.keep K49
  have sz85 : n0 ≤ h48.size := Nat.le_trans sz37 K49.1
  have sy86 : h0.size ≤ h48.size := Nat.le_trans sy38 K49.1
  refine Wk.st (g' := (mkF m 28 #[.val (.int i0), .val (.int i1), .val (.int i2), .val (.int i3), .val (.int i4), .val (.ref n1_b6), .val (.ref b21), .unset] [])) (fun X t q => XS.astore X.here C.hx rfl (hb C.hby at_26) rfl rfl (l' := #[.val (.int i0), .val (.int i1), .val (.int i2), .val (.int i3), .val (.int i4), .val (.ref n1_b6), .val (.ref b21), .unset]) rfl q) ?_
  refine Wk.st (g' := (mkF m 29 #[.val (.int i0), .val (.int i1), .val (.int i2), .val (.int i3), .val (.int i4), .val (.ref n1_b6), .val (.ref b21), .unset] [(.int i3)])) (fun X t q => XS.iloadN X.here C.hx rfl (hb C.hby at_28) rfl q) ?_
  refine Wk.st (g' := (mkF m 30 #[.val (.int i0), .val (.int i1), .val (.int i2), .val (.int i3), .val (.int i4), .val (.ref n1_b6), .val (.ref b21), .unset] [(.int (1 : Int32)), (.int i3)])) (fun X t q => XS.iconst X.here C.hx rfl (hb C.hby at_29) q) ?_
  refine Wk.st (g' := (mkF m 31 #[.val (.int i0), .val (.int i1), .val (.int i2), .val (.int i3), .val (.int i4), .val (.ref n1_b6), .val (.ref b21), .unset] [(.int ((i3.toUInt32 >>> ((1 : Int32) &&& 31).toUInt32).toInt32))])) (fun X t q => XS.iushr X.here C.hx rfl (hb C.hby at_30) rfl q) ?_
  refine Wk.st (g' := (mkF m 32 #[.val (.int i0), .val (.int i1), .val (.int i2), .val (.int i3), .val (.int i4), .val (.ref n1_b6), .val (.ref b21), .unset] [(.int (1 : Int32)), (.int ((i3.toUInt32 >>> ((1 : Int32) &&& 31).toUInt32).toInt32))])) (fun X t q => XS.iconst X.here C.hx rfl (hb C.hby at_31) q) ?_
  refine Wk.st (g' := (mkF m 33 #[.val (.int i0), .val (.int i1), .val (.int i2), .val (.int i3), .val (.int i4), .val (.ref n1_b6), .val (.ref b21), .unset] [(.int (((i3.toUInt32 >>> ((1 : Int32) &&& 31).toUInt32).toInt32) &&& (1 : Int32)))])) (fun X t q => XS.iand X.here C.hx rfl (hb C.hby at_32) rfl q) ?_
  refine Wk.st (g' := (mkF m 34 #[.val (.int i0), .val (.int i1), .val (.int i2), .val (.int i3), .val (.int i4), .val (.ref n1_b6), .val (.ref b21), .unset] [(.int (1 : Int32)), (.int (((i3.toUInt32 >>> ((1 : Int32) &&& 31).toUInt32).toInt32) &&& (1 : Int32)))])) (fun X t q => XS.iconst X.here C.hx rfl (hb C.hby at_33) q) ?_
  by_cases hb87 : (((i3.toUInt32 >>> ((1 : Int32) &&& 31).toUInt32).toInt32) &&& (1 : Int32)) = (1 : Int32)
  · skip
    refine Wk.st (g' := (mkF m 37 #[.val (.int i0), .val (.int i1), .val (.int i2), .val (.int i3), .val (.int i4), .val (.ref n1_b6), .val (.ref b21), .unset] [])) (fun X t q => XS.icmpNo X.here C.hx rfl (hb C.hby at_34) rfl (XT.ii_ne_f hb87) q) ?_
    refine Wk.st (g' := (mkF m 38 #[.val (.int i0), .val (.int i1), .val (.int i2), .val (.int i3), .val (.int i4), .val (.ref n1_b6), .val (.ref b21), .unset] [(.int (1 : Int32))])) (fun X t q => XS.iconst X.here C.hx rfl (hb C.hby at_37) q) ?_
    refine Wk.st (g' := (mkF m 42 #[.val (.int i0), .val (.int i1), .val (.int i2), .val (.int i3), .val (.int i4), .val (.ref n1_b6), .val (.ref b21), .unset] [(.int (1 : Int32))])) (fun X t q => XS.goto X.here C.hx rfl (pc0 := 38) (pc' := 42) rfl (hb C.hby at_38) (by decide) (by decide) q) ?_
    refine Wk.st (g' := (mkF m 44 #[.val (.int i0), .val (.int i1), .val (.int i2), .val (.int i3), .val (.int i4), .val (.ref n1_b6), .val (.ref b21), .val (.int (1 : Int32))] [])) (fun X t q => XS.istore X.here C.hx rfl (hb C.hby at_42) rfl (l' := #[.val (.int i0), .val (.int i1), .val (.int i2), .val (.int i3), .val (.int i4), .val (.ref n1_b6), .val (.ref b21), .val (.int (1 : Int32))]) rfl q) ?_
    refine Wk.st (g' := (mkF m 46 #[.val (.int i0), .val (.int i1), .val (.int i2), .val (.int i3), .val (.int i4), .val (.ref n1_b6), .val (.ref b21), .val (.int (1 : Int32))] [(.ref b21)])) (fun X t q => XS.aload X.here C.hx rfl (hb C.hby at_44) rfl rfl q) ?_
    refine Wk.callV C (x := (⟨"com/example/ample_queue/amplequeue/protocol/Frame", "isOneway", "()Z"⟩ : MethodName)) (z := (⟨"com/example/ample_queue/amplequeue/protocol/Frame", "isOneway", "()Z"⟩ : MethodName)) (K := "com/example/ample_queue/amplequeue/protocol/Frame") (hw _ (List.mem_of_getElem? (i := 88) rfl)) (hw _ (List.mem_of_getElem? (i := 89) rfl)) (hw _ (List.mem_of_getElem? (i := 91) rfl)) (hw _ (List.mem_of_getElem? (i := 90) rfl)) (hw _ (List.mem_of_getElem? (i := 28) rfl)) (hw _ (List.mem_of_getElem? (i := 92) rfl)) (by decide) (fun s' hZ' => notFace_of_selects (args := #[]) (mvT hZ' (hw _ (List.mem_of_getElem? (i := 91) rfl)))) F84 (own_iso l Z a0 hw n0 h48 b21 i3 F64) (w := 0) (by decide) (by decide) pd_7 rfl (rest := []) rfl rfl (Nat.le_of_eq rfl) (by decide) (by decide) at_46 ?_
    rintro _ _ ⟨rfl, rfl⟩
    show Wk _ p l e _ s m _ below meth c n0 _ h48 7 62 (mkF m 49 #[.val (.int i0), .val (.int i1), .val (.int i2), .val (.int i3), .val (.int i4), .val (.ref n1_b6), .val (.ref b21), .val (.int (1 : Int32))] [(.int (if i3 &&& (2 : Int32) = (0 : Int32) then (0 : Int32) else (1 : Int32)))])
    refine Wk.st (g' := (mkF m 51 #[.val (.int i0), .val (.int i1), .val (.int i2), .val (.int i3), .val (.int i4), .val (.ref n1_b6), .val (.ref b21), .val (.int (1 : Int32))] [(.int (1 : Int32)), (.int (if i3 &&& (2 : Int32) = (0 : Int32) then (0 : Int32) else (1 : Int32)))])) (fun X t q => XS.iload X.here C.hx rfl (hb C.hby at_49) rfl q) ?_
    refine Wk.st (g' := (mkF m 54 #[.val (.int i0), .val (.int i1), .val (.int i2), .val (.int i3), .val (.int i4), .val (.ref n1_b6), .val (.ref b21), .val (.int (1 : Int32))] [])) (fun X t q => XS.icmpNo X.here C.hx rfl (hb C.hby at_51) rfl (XT.ii_ne_f (by rw [if_neg ((bit1 i3).mp hb87)])) q) ?_
    refine Wk.st (g' := (mkF m 55 #[.val (.int i0), .val (.int i1), .val (.int i2), .val (.int i3), .val (.int i4), .val (.ref n1_b6), .val (.ref b21), .val (.int (1 : Int32))] [(.int (1 : Int32))])) (fun X t q => XS.iconst X.here C.hx rfl (hb C.hby at_54) q) ?_
    refine Wk.st (g' := (mkF m 59 #[.val (.int i0), .val (.int i1), .val (.int i2), .val (.int i3), .val (.int i4), .val (.ref n1_b6), .val (.ref b21), .val (.int (1 : Int32))] [(.int (1 : Int32))])) (fun X t q => XS.goto X.here C.hx rfl (pc0 := 55) (pc' := 59) rfl (hb C.hby at_55) (by decide) (by decide) q) ?_
    exact Wk.retV C (t := .boolean) rfl rfl (Or.inl ⟨rfl, by simp, _, rfl⟩) at_59 (by decide) (by decide) ⟨rfl, trivial⟩
  · skip
    refine Wk.st (g' := (mkF m 41 #[.val (.int i0), .val (.int i1), .val (.int i2), .val (.int i3), .val (.int i4), .val (.ref n1_b6), .val (.ref b21), .unset] [])) (fun X t q => XS.icmpYes X.here C.hx rfl (pc0 := 34) (pc' := 41) rfl (hb C.hby at_34) rfl (XT.ii_ne_t hb87) (by decide) (by decide) q) ?_
    refine Wk.st (g' := (mkF m 42 #[.val (.int i0), .val (.int i1), .val (.int i2), .val (.int i3), .val (.int i4), .val (.ref n1_b6), .val (.ref b21), .unset] [(.int (0 : Int32))])) (fun X t q => XS.iconst X.here C.hx rfl (hb C.hby at_41) q) ?_
    refine Wk.st (g' := (mkF m 44 #[.val (.int i0), .val (.int i1), .val (.int i2), .val (.int i3), .val (.int i4), .val (.ref n1_b6), .val (.ref b21), .val (.int (0 : Int32))] [])) (fun X t q => XS.istore X.here C.hx rfl (hb C.hby at_42) rfl (l' := #[.val (.int i0), .val (.int i1), .val (.int i2), .val (.int i3), .val (.int i4), .val (.ref n1_b6), .val (.ref b21), .val (.int (0 : Int32))]) rfl q) ?_
    refine Wk.st (g' := (mkF m 46 #[.val (.int i0), .val (.int i1), .val (.int i2), .val (.int i3), .val (.int i4), .val (.ref n1_b6), .val (.ref b21), .val (.int (0 : Int32))] [(.ref b21)])) (fun X t q => XS.aload X.here C.hx rfl (hb C.hby at_44) rfl rfl q) ?_
    refine Wk.callV C (x := (⟨"com/example/ample_queue/amplequeue/protocol/Frame", "isOneway", "()Z"⟩ : MethodName)) (z := (⟨"com/example/ample_queue/amplequeue/protocol/Frame", "isOneway", "()Z"⟩ : MethodName)) (K := "com/example/ample_queue/amplequeue/protocol/Frame") (hw _ (List.mem_of_getElem? (i := 88) rfl)) (hw _ (List.mem_of_getElem? (i := 89) rfl)) (hw _ (List.mem_of_getElem? (i := 91) rfl)) (hw _ (List.mem_of_getElem? (i := 90) rfl)) (hw _ (List.mem_of_getElem? (i := 28) rfl)) (hw _ (List.mem_of_getElem? (i := 92) rfl)) (by decide) (fun s' hZ' => notFace_of_selects (args := #[]) (mvT hZ' (hw _ (List.mem_of_getElem? (i := 91) rfl)))) F84 (own_iso l Z a0 hw n0 h48 b21 i3 F64) (w := 0) (by decide) (by decide) pd_7 rfl (rest := []) rfl rfl (Nat.le_of_eq rfl) (by decide) (by decide) at_46 ?_
    rintro _ _ ⟨rfl, rfl⟩
    show Wk _ p l e _ s m _ below meth c n0 _ h48 7 62 (mkF m 49 #[.val (.int i0), .val (.int i1), .val (.int i2), .val (.int i3), .val (.int i4), .val (.ref n1_b6), .val (.ref b21), .val (.int (0 : Int32))] [(.int (if i3 &&& (2 : Int32) = (0 : Int32) then (0 : Int32) else (1 : Int32)))])
    refine Wk.st (g' := (mkF m 51 #[.val (.int i0), .val (.int i1), .val (.int i2), .val (.int i3), .val (.int i4), .val (.ref n1_b6), .val (.ref b21), .val (.int (0 : Int32))] [(.int (0 : Int32)), (.int (if i3 &&& (2 : Int32) = (0 : Int32) then (0 : Int32) else (1 : Int32)))])) (fun X t q => XS.iload X.here C.hx rfl (hb C.hby at_49) rfl q) ?_
    refine Wk.st (g' := (mkF m 54 #[.val (.int i0), .val (.int i1), .val (.int i2), .val (.int i3), .val (.int i4), .val (.ref n1_b6), .val (.ref b21), .val (.int (0 : Int32))] [])) (fun X t q => XS.icmpNo X.here C.hx rfl (hb C.hby at_51) rfl (XT.ii_ne_f (by rw [if_pos (Classical.byContradiction fun q => hb87 ((bit1 i3).mpr q))])) q) ?_
    refine Wk.st (g' := (mkF m 55 #[.val (.int i0), .val (.int i1), .val (.int i2), .val (.int i3), .val (.int i4), .val (.ref n1_b6), .val (.ref b21), .val (.int (0 : Int32))] [(.int (1 : Int32))])) (fun X t q => XS.iconst X.here C.hx rfl (hb C.hby at_54) q) ?_
    refine Wk.st (g' := (mkF m 59 #[.val (.int i0), .val (.int i1), .val (.int i2), .val (.int i3), .val (.int i4), .val (.ref n1_b6), .val (.ref b21), .val (.int (0 : Int32))] [(.int (1 : Int32))])) (fun X t q => XS.goto X.here C.hx rfl (pc0 := 55) (pc' := 59) rfl (hb C.hby at_55) (by decide) (by decide) q) ?_
    exact Wk.retV C (t := .boolean) rfl rfl (Or.inl ⟨rfl, by simp, _, rfl⟩) at_59 (by decide) (by decide) ⟨rfl, trivial⟩
set_option maxRecDepth 65536 in
set_option maxHeartbeats 40000000 in
theorem comes_1 {Post : Tables → Env → Array Value → State → Outcome → State → Prop} (hpost : ∀ tb e args s v u, (limb_1_1.after args s (.returned v) u = true ∧ limb_1_2.after args s (.returned v) u = true ∧ True) → ReturnedEndW s (.returned v) u (Jvm.fieldLocs frame_1_writes args s ++ Jvm.arrayLocs frame_1_arrays args s ++ Jvm.staticLocs frame_1_statics s) 24 1152 → Post tb e args s (.returned v) u) :
    ArmFor flags0 classFile x code maxLocals ret World_1 tables_1 room_1 Calls_1 rest_1 Pre_1 Post := by
  intro l hfl _ _ p e ha hc hk s m args below hf hA hF happ hP
  obtain ⟨hcalls, hrest, hpre⟩ := hP
  obtain ⟨-, -, -, hnamed, -, -, -, hat⟩ := (Spec.applies_iff hf).mp happ
  obtain ⟨hg, hn⟩ := and_e (Cond.before_iff.mp (show (Jvm.Cond.and given_1 narrow_1).before args s = true from hpre))
  obtain ⟨hcount, g0⟩ := and_e hg
  obtain ⟨v0, v1, v2, v3, v4, rfl⟩ : ∃ v0 v1 v2 v3 v4 : Value, args = #[v0, v1, v2, v3, v4] := by
    have hs : args.size = 5 := by simpa [Cond.value, given_1] using hcount
    obtain ⟨L⟩ := args
    match L, hs with
    | [v0, v1, v2, v3, v4], _ => exact ⟨v0, v1, v2, v3, v4, rfl⟩
  have hw := fun d (hd : d ∈ tables_1) => atoms_spec (ws := Jvm.Cond.code x code maxLocals ret :: tables_1) hat d (List.mem_cons_of_mem _ hd)
  have hfit : Fit s := fun {y c} hc i hi => by
    obtain ⟨ha, rfl⟩ := Array.getElem?_eq_some_iff.mp hc
    have q := List.all_eq_true.mp ((Array.all_eq_true_iff_forall_mem.mp hF) _ (Array.getElem_mem ha)) i (List.mem_range.mpr hi)
    simpa [Array.getElem?_eq_getElem hi] using q
  obtain ⟨e0, g1⟩ := and_e g0
  obtain ⟨i0, f0⟩ := is_v e0
  obtain rfl : v0 = (.int i0) := Option.some.inj f0
  obtain ⟨e1, g2⟩ := and_e g1
  obtain ⟨i1, f1⟩ := is_v e1
  obtain rfl : v1 = (.int i1) := Option.some.inj f1
  obtain ⟨e2, g3⟩ := and_e g2
  obtain ⟨i2, f2⟩ := is_v e2
  obtain rfl : v2 = (.int i2) := Option.some.inj f2
  obtain ⟨e3, g4⟩ := and_e g3
  obtain ⟨i3, f3⟩ := is_v e3
  obtain rfl : v3 = (.int i3) := Option.some.inj f3
  obtain ⟨i4, f4⟩ := is_v g4
  obtain rfl : v4 = (.int i4) := Option.some.inj f4
  obtain ⟨hsets, hown0⟩ := atoms_of _ (rest_1_c_eq ▸ (show rest_1_c.before _ s = true from hrest))
  have n3 := not_v (Cond.before_iff.mp (hsets _ (List.mem_of_getElem? (i := 2) rfl)))
  obtain ⟨cs, ecs⟩ := is_v (Cond.before_iff.mp (hsets _ (List.mem_of_getElem? (i := 1) rfl)))
  have SC : Sta s s.heap "java/lang/String" "COMPACT_STRINGS" "Z" (.int cs) := Sta.start ecs (Or.inl (hsets _ (List.mem_of_getElem? (i := 0) rfl)))
  have hcs : ¬ cs = (0 : Int32) := gotF (Cond.eq_ints ecs (Term.int_eval 0)) n3
  obtain ⟨s_J, ev_J, SJ, EJ⟩ := stat_exa (hw _ (List.mem_of_getElem? (i := 64) rfl)) (hw _ (List.mem_of_getElem? (i := 65) rfl)) hn
  obtain ⟨n, o, h1, h2, h3, _, L, rfl, ⟨⟨rfl, -⟩, N⟩, hq⟩ := law_met l s _ hw s.heap.size s.heap (Nat.le_refl _) i0 i1 i2 i3 i4 cs s_J SC SJ hcs tables_1 p e ha hc hk s m _ below hf ((Spec.applies_iff_loose hf).mp happ).1 ⟨rfl, State.Warmed39.refl s, rfl⟩ trivial
  refine ⟨n, _, h1, h2, h3, hpost _ _ _ _ _ _ ⟨Cond.after_iff.mpr rfl, Cond.after_iff.mpr (eq_i res_at (Term.int_eval (1)) rfl), trivial⟩ ⟨hq.1, hq.2.1, hq.2.2.1, (hq.2.2.2.sift fun y hy => Or.inr (N y hy)).mono (by decide) (by decide)⟩⟩
theorem main_1_1 : Claimed_1_1 := comes_1 fun _ _ _ _ _ _ h hF => ⟨h.1, hF⟩
theorem main_1_2 : Claimed_1_2 := comes_1 fun _ _ _ _ _ _ h hF => ⟨h.2.1, hF⟩
end Jvm.Pilot.@@N@@
namespace Jvm.Pilot.@@N@@
open Jvm Jvm.ClassFile Sem Op Lib Jvm.Free Jvm.Stand Jvm.Pilot.@@N@@.Jvm.D
/-! MADE BY PROGRAM (witnessworld.py) out of the Statement's table words and the real class files: 25 classes; the members and pool entries that the words name. The judged class is class 1, her method 1. -/
namespace start1
open Jvm.ClassFile
def u (s : String) : CpInfo := .utf8 (stringToUtf16 s)
/-- a pool by its gaps: so many unusable entries, then the entry; so many at the end -/
def gap : Nat → List CpInfo → List CpInfo
  | 0, r => r
  | n + 1, r => .unusable :: gap n r
def poolList (es : List (Nat × CpInfo)) (last : Nat) : List CpInfo := es.foldr (fun e r => gap e.1 (e.2 :: r)) (gap last [])
def pool (es : List (Nat × CpInfo)) (last : Nat) : Array CpInfo := ⟨poolList es last⟩
def fileOf (pool : Array CpInfo) (this : Nat) (attrs : Array Attribute := #[]) (ms : Array MethodInfo := #[]) (fl : Nat := 33) (sup : Nat := 0) (ifs : Array Nat := #[]) (fds : Array FieldInfo := #[]) : ClassFile where
  minorVersion := 0
  majorVersion := 65
  constantPool := pool
  accessFlags := fl
  thisClass := this
  superClass := sup
  interfaces := ifs
  fields := fds
  methods := ms
  attributes := attrs
def plain (name : String) (sup : Option ClassId) : Class where
  name := name
  kind := .ordinary
  loader := none
  accessFlags := 33
  super := sup
  interfaces := #[]
  cf := none
  fields := #[]
  methods := #[]
  instanceTypes := #[]
  staticTypes := #[]
  resolved := #[]
  callSites := []
  init := .initialized
  statics := none
  mirror := none

def pool0 : Array CpInfo := pool [(5, u "<init>"), (0, u "()V"), (1, .class_ 10), (1, u "java/lang/Object")] 113

def k0c0 : Code := { maxStack := 0, maxLocals := 1, code := object_method_1_code, exceptionTable := #[], attributes := #[] }
def k0m0 : Method := { name := "<init>", desc := "()V", sig := { parameters := [], returnType := none }, accessFlags := 1, code := some k0c0 }
/-- java/lang/Object -/
def k0 : Class := { plain "java/lang/Object" none with
  accessFlags := 33
  interfaces := #[]
  cf := some (fileOf pool0 8 #[] #[{ accessFlags := 1, nameIndex := 5, descriptorIndex := 6, attributes := #[] }] 33 0 #[] #[])
  fields := #[]
  methods := #[k0m0]
  instanceTypes := #[]
  staticTypes := #[]
  resolved := Array.replicate 124 none
  statics := none }

def pool1 : Array CpInfo := pool [(2, .class_ 4), (1, u "java/lang/Object"), (0, u "<init>"), (0, u "()V"), (0, .methodref 8 9), (0, .class_ 10), (0, .nameAndType 11 12), (0, u "java/lang/String"), (0, u "valueOf"), (0, u "(C)Ljava/lang/String;"), (0, .class_ 14), (0, u "com/example/ample_queue/amplequeue/protocol/Frame"), (0, .methodref 13 16), (0, .nameAndType 5 17), (0, u "(ILjava/lang/String;IIILjava/lang/String;)V"), (0, .methodref 13 19), (0, .nameAndType 20 21), (0, u "isOneway"), (0, u "()Z"), (0, .class_ 23), (0, u "com/example/ample_queue/amplequeue/protocol/FrameIsOnewayPinLaw"), (2, u "law"), (0, u "(IIIII)Z")] 3

def k1m0 : Method := { name := "<init>", desc := "()V", sig := { parameters := [], returnType := none }, accessFlags := 1, code := none }
def k1c1 : Code := { maxStack := 8, maxLocals := 8, code := code, exceptionTable := #[], attributes := #[] }
def k1m1 : Method := { name := "law", desc := "(IIIII)Z", sig := { parameters := [.int, .int, .int, .int, .int], returnType := some .boolean }, accessFlags := 9, code := some k1c1 }
/-- com/example/ample_queue/amplequeue/protocol/FrameIsOnewayPinLaw -/
def k1 : Class := { plain "com/example/ample_queue/amplequeue/protocol/FrameIsOnewayPinLaw" (some 0) with
  accessFlags := 49
  interfaces := #[]
  cf := some (fileOf pool1 22 #[] #[{ accessFlags := 1, nameIndex := 5, descriptorIndex := 6, attributes := #[] }, { accessFlags := 9, nameIndex := 26, descriptorIndex := 27, attributes := #[] }] 49 2 #[] #[])
  fields := #[]
  methods := #[k1m0, k1m1]
  instanceTypes := #[]
  staticTypes := #[]
  resolved := Array.replicate 31 none
  statics := none }

def pool2 : Array CpInfo := pool [(1, .class_ 2), (0, u "java/io/Serializable"), (0, .class_ 4), (0, u "java/lang/Object")] 2

/-- java/io/Serializable -/
def k2 : Class := { plain "java/io/Serializable" (some 0) with
  accessFlags := 1537
  interfaces := #[]
  cf := some (fileOf pool2 1 #[] #[] 1537 3 #[] #[])
  fields := #[]
  methods := #[]
  instanceTypes := #[]
  staticTypes := #[]
  resolved := Array.replicate 7 none
  statics := none }

def pool3 : Array CpInfo := pool [(1, .class_ 2), (0, u "java/lang/Comparable"), (0, .class_ 4), (0, u "java/lang/Object")] 7

/-- java/lang/Comparable -/
def k3 : Class := { plain "java/lang/Comparable" (some 0) with
  accessFlags := 1537
  interfaces := #[]
  cf := some (fileOf pool3 1 #[] #[] 1537 3 #[] #[])
  fields := #[]
  methods := #[]
  instanceTypes := #[]
  staticTypes := #[]
  resolved := Array.replicate 12 none
  statics := none }

def pool4 : Array CpInfo := pool [(2, .class_ 4), (1, u "java/lang/CharSequence"), (42, .class_ 48), (0, u "java/lang/CharSequence$1CodePointIterator"), (10, .class_ 60), (0, u "java/lang/CharSequence$1CharIterator"), (5, .class_ 67), (0, u "java/lang/Object")] 63

/-- java/lang/CharSequence -/
def k4 : Class := { plain "java/lang/CharSequence" (some 0) with
  accessFlags := 1537
  interfaces := #[]
  cf := some (fileOf pool4 2 #[.nestMembers #[47, 59]] #[] 1537 66 #[] #[])
  fields := #[]
  methods := #[]
  instanceTypes := #[]
  staticTypes := #[]
  resolved := Array.replicate 131 none
  statics := none }

def pool5 : Array CpInfo := pool [(1, .class_ 2), (0, u "java/lang/constant/Constable"), (0, .class_ 4), (0, u "java/lang/Object")] 6

/-- java/lang/constant/Constable -/
def k5 : Class := { plain "java/lang/constant/Constable" (some 0) with
  accessFlags := 1537
  interfaces := #[]
  cf := some (fileOf pool5 1 #[] #[] 1537 3 #[] #[])
  fields := #[]
  methods := #[]
  instanceTypes := #[]
  staticTypes := #[]
  resolved := Array.replicate 11 none
  statics := none }

def pool6 : Array CpInfo := pool [(1, .class_ 2), (0, u "java/lang/constant/ConstantDesc"), (0, .class_ 4), (0, u "java/lang/Object")] 32

/-- java/lang/constant/ConstantDesc -/
def k6 : Class := { plain "java/lang/constant/ConstantDesc" (some 0) with
  accessFlags := 1537
  interfaces := #[]
  cf := some (fileOf pool6 1 #[] #[] 1537 3 #[] #[])
  fields := #[]
  methods := #[]
  instanceTypes := #[]
  staticTypes := #[]
  resolved := Array.replicate 37 none
  statics := none }

def pool7 : Array CpInfo := pool [(1, .methodref 2 3), (0, .class_ 4), (0, .nameAndType 5 6), (0, u "java/lang/Object"), (0, u "<init>"), (0, u "()V"), (2, .fieldref 10 11), (0, .class_ 12), (0, .nameAndType 13 14), (0, u "java/lang/String"), (0, u "value"), (0, u "[B"), (0, .fieldref 10 16), (0, .nameAndType 17 18), (0, u "coder"), (0, u "B"), (2, u "hash"), (0, u "I"), (2, u "hashIsZero"), (0, u "Z"), (11, .fieldref 10 39), (0, .nameAndType 40 26), (0, u "COMPACT_STRINGS"), (12, u "toBytes"), (53, .class_ 109), (1, u "java/lang/StringLatin1"), (99, .methodref 10 210), (0, .nameAndType 5 211), (0, u "([BB)V"), (157, u "(C)Z"), (205, .class_ 576), (0, u "java/lang/CharSequence"), (22, u "CASE_INSENSITIVE_ORDER"), (0, u "Ljava/util/Comparator;"), (181, u "valueOf"), (0, u "(C)Ljava/lang/String;"), (231, .methodref 107 1016), (0, .nameAndType 1017 369), (0, u "canEncode"), (0, .methodref 107 1019), (0, .nameAndType 53 1020), (0, u "(C)[B"), (80, u "serialPersistentFields"), (0, u "[Ljava/io/ObjectStreamField;"), (0, .class_ 1104), (0, u "java/lang/String$CaseInsensitiveComparator"), (1, .class_ 1107), (0, u "java/io/Serializable"), (0, .class_ 1109), (0, u "java/lang/Comparable"), (0, .class_ 1111), (0, u "java/lang/constant/Constable"), (0, .class_ 1113), (0, u "java/lang/constant/ConstantDesc"), (2, u "serialVersionUID"), (0, u "J"), (3, u "REPL"), (0, u "C"), (2, u "LATIN1"), (1, u "UTF16")] 323

def k7m0 : Method := { name := "<init>", desc := "()V", sig := { parameters := [], returnType := none }, accessFlags := 1, code := none }
def k7c1 : Code := { maxStack := 4, maxLocals := 1, code := jdk_42_method_139_code, exceptionTable := #[], attributes := #[] }
def k7m1 : Method := { name := "valueOf", desc := "(C)Ljava/lang/String;", sig := { parameters := [.char], returnType := some (.object "java/lang/String") }, accessFlags := 9, code := some k7c1 }
def k7c2 : Code := { maxStack := 2, maxLocals := 3, code := jdk_42_method_151_code, exceptionTable := #[], attributes := #[] }
def k7m2 : Method := { name := "<init>", desc := "([BB)V", sig := { parameters := [(.array .byte), .byte], returnType := none }, accessFlags := 0, code := some k7c2 }
/-- java/lang/String -/
def k7 : Class := { plain "java/lang/String" (some 0) with
  accessFlags := 49
  interfaces := #[2, 3, 4, 5, 6]
  cf := some (fileOf pool7 10 #[.nestMembers #[1103]] #[{ accessFlags := 1, nameIndex := 5, descriptorIndex := 6, attributes := #[] }, { accessFlags := 9, nameIndex := 782, descriptorIndex := 783, attributes := #[] }, { accessFlags := 0, nameIndex := 5, descriptorIndex := 211, attributes := #[] }] 49 2 #[1106, 1108, 575, 1110, 1112] #[{ accessFlags := 18, nameIndex := 13, descriptorIndex := 14, attributes := #[] }, { accessFlags := 18, nameIndex := 17, descriptorIndex := 18, attributes := #[] }, { accessFlags := 2, nameIndex := 21, descriptorIndex := 22, attributes := #[] }, { accessFlags := 2, nameIndex := 25, descriptorIndex := 26, attributes := #[] }, { accessFlags := 26, nameIndex := 1116, descriptorIndex := 1117, attributes := #[] }, { accessFlags := 24, nameIndex := 40, descriptorIndex := 26, attributes := #[] }, { accessFlags := 26, nameIndex := 1101, descriptorIndex := 1102, attributes := #[] }, { accessFlags := 26, nameIndex := 1121, descriptorIndex := 1122, attributes := #[] }, { accessFlags := 25, nameIndex := 599, descriptorIndex := 600, attributes := #[] }, { accessFlags := 24, nameIndex := 1125, descriptorIndex := 18, attributes := #[] }, { accessFlags := 24, nameIndex := 1127, descriptorIndex := 18, attributes := #[] }])
  fields := #[{ name := "value", type := (.array .byte), accessFlags := 18, slot := 0, constantValue := 0 }, { name := "coder", type := .byte, accessFlags := 18, slot := 1, constantValue := 0 }, { name := "hash", type := .int, accessFlags := 2, slot := 2, constantValue := 0 }, { name := "hashIsZero", type := .boolean, accessFlags := 2, slot := 3, constantValue := 0 }, { name := "serialVersionUID", type := .long, accessFlags := 26, slot := 0, constantValue := 0 }, { name := "COMPACT_STRINGS", type := .boolean, accessFlags := 24, slot := 1, constantValue := 0 }, { name := "serialPersistentFields", type := (.array (.object "java/io/ObjectStreamField")), accessFlags := 26, slot := 2, constantValue := 0 }, { name := "REPL", type := .char, accessFlags := 26, slot := 3, constantValue := 0 }, { name := "CASE_INSENSITIVE_ORDER", type := (.object "java/util/Comparator"), accessFlags := 25, slot := 4, constantValue := 0 }, { name := "LATIN1", type := .byte, accessFlags := 24, slot := 5, constantValue := 0 }, { name := "UTF16", type := .byte, accessFlags := 24, slot := 6, constantValue := 0 }]
  methods := #[k7m0, k7m1, k7m2]
  instanceTypes := #[(.array .byte), .byte, .int, .boolean]
  staticTypes := #[.long, .boolean, (.array (.object "java/io/ObjectStreamField")), .char, (.object "java/util/Comparator"), .byte, .byte]
  resolved := Array.replicate 1451 none
  statics := some 0 }

def pool8 : Array CpInfo := pool [(4, .class_ 6), (1, u "java/lang/Object"), (0, u "<init>"), (0, u "()V"), (5, .class_ 16), (1, u "java/lang/StringLatin1"), (73, u "canEncode"), (14, u "(C)Z"), (15, u "$assertionsDisabled"), (0, u "Z"), (98, .class_ 223), (1, u "java/lang/StringLatin1$LinesSpliterator"), (156, u "toBytes"), (1, u "(C)[B"), (7, .class_ 391), (0, u "java/lang/StringLatin1$CharsSpliterator")] 3

def k8m0 : Method := { name := "<init>", desc := "()V", sig := { parameters := [], returnType := none }, accessFlags := 0, code := none }
def k8c1 : Code := { maxStack := 2, maxLocals := 1, code := jdk_43_method_3_code, exceptionTable := #[], attributes := #[] }
def k8m1 : Method := { name := "canEncode", desc := "(C)Z", sig := { parameters := [.char], returnType := some .boolean }, accessFlags := 9, code := some k8c1 }
def k8c2 : Code := { maxStack := 4, maxLocals := 1, code := jdk_43_method_46_code, exceptionTable := #[], attributes := #[] }
def k8m2 : Method := { name := "toBytes", desc := "(C)[B", sig := { parameters := [.char], returnType := some (.array .byte) }, accessFlags := 9, code := some k8c2 }
/-- java/lang/StringLatin1 -/
def k8 : Class := { plain "java/lang/StringLatin1" (some 0) with
  accessFlags := 48
  interfaces := #[]
  cf := some (fileOf pool8 14 #[.nestMembers #[390, 221]] #[{ accessFlags := 0, nameIndex := 7, descriptorIndex := 8, attributes := #[] }, { accessFlags := 9, nameIndex := 90, descriptorIndex := 105, attributes := #[] }, { accessFlags := 9, nameIndex := 380, descriptorIndex := 382, attributes := #[] }] 48 4 #[] #[{ accessFlags := 4120, nameIndex := 121, descriptorIndex := 122, attributes := #[] }])
  fields := #[{ name := "$assertionsDisabled", type := .boolean, accessFlags := 4120, slot := 0, constantValue := 0 }]
  methods := #[k8m0, k8m1, k8m2]
  instanceTypes := #[]
  staticTypes := #[.boolean]
  resolved := Array.replicate 395 none
  statics := none }

def pool9 : Array CpInfo := pool [(1, .methodref 2 3), (0, .class_ 4), (0, .nameAndType 5 6), (0, u "java/lang/Object"), (0, u "<init>"), (0, u "()V"), (0, .class_ 8), (0, u "java/util/LinkedHashMap"), (0, .methodref 7 3), (0, .fieldref 11 12), (0, .class_ 13), (0, .nameAndType 14 15), (0, u "com/example/ample_queue/amplequeue/protocol/Frame"), (0, u "extFields"), (0, u "Ljava/util/Map;"), (0, .fieldref 11 17), (0, .nameAndType 18 19), (0, u "body"), (0, u "[B"), (0, .fieldref 21 22), (0, .class_ 23), (0, .nameAndType 24 25), (0, u "com/example/ample_queue/amplequeue/protocol/HeaderEncoding"), (0, u "JSON"), (0, u "Lcom/example/ample_queue/amplequeue/protocol/HeaderEncoding;"), (0, .fieldref 11 27), (0, .nameAndType 28 25), (0, u "headerEncoding"), (0, .fieldref 11 30), (0, .nameAndType 31 32), (0, u "code"), (0, u "I"), (0, .string 34), (0, u "language"), (0, .methodref 36 37), (0, .class_ 38), (0, .nameAndType 39 40), (0, u "java/util/Objects"), (0, u "requireNonNull"), (0, u "(Ljava/lang/Object;Ljava/lang/String;)Ljava/lang/Object;"), (0, .class_ 42), (0, u "java/lang/String"), (0, .fieldref 11 44), (0, .nameAndType 34 45), (0, u "Ljava/lang/String;"), (0, .fieldref 11 47), (0, .nameAndType 48 32), (0, u "version"), (0, .fieldref 11 50), (0, .nameAndType 51 32), (0, u "opaque"), (0, .fieldref 11 53), (0, .nameAndType 54 32), (0, u "flag"), (0, .fieldref 11 56), (0, .nameAndType 57 45), (0, u "remark"), (4, u "(ILjava/lang/String;IIILjava/lang/String;)V"), (65, u "RESPONSE_FLAG"), (2, u "ONEWAY_FLAG"), (1, u "LANGUAGE"), (0, u "VERSION"), (20, u "()Z"), (1, u "isOneway")] 34

def k9c0 : Code := { maxStack := 3, maxLocals := 7, code := prog_41_method_1_code, exceptionTable := #[], attributes := #[] }
def k9m0 : Method := { name := "<init>", desc := "(ILjava/lang/String;IIILjava/lang/String;)V", sig := { parameters := [.int, (.object "java/lang/String"), .int, .int, .int, (.object "java/lang/String")], returnType := none }, accessFlags := 1, code := some k9c0 }
def k9c1 : Code := { maxStack := 2, maxLocals := 1, code := prog_41_method_13_code, exceptionTable := #[], attributes := #[] }
def k9m1 : Method := { name := "isOneway", desc := "()Z", sig := { parameters := [], returnType := some .boolean }, accessFlags := 1, code := some k9c1 }
/-- com/example/ample_queue/amplequeue/protocol/Frame -/
def k9 : Class := { plain "com/example/ample_queue/amplequeue/protocol/Frame" (some 0) with
  accessFlags := 49
  interfaces := #[]
  cf := some (fileOf pool9 11 #[] #[{ accessFlags := 1, nameIndex := 5, descriptorIndex := 62, attributes := #[] }, { accessFlags := 1, nameIndex := 157, descriptorIndex := 155, attributes := #[] }] 49 2 #[] #[{ accessFlags := 25, nameIndex := 128, descriptorIndex := 32, attributes := #[] }, { accessFlags := 25, nameIndex := 131, descriptorIndex := 32, attributes := #[] }, { accessFlags := 25, nameIndex := 133, descriptorIndex := 45, attributes := #[] }, { accessFlags := 25, nameIndex := 134, descriptorIndex := 32, attributes := #[] }, { accessFlags := 18, nameIndex := 31, descriptorIndex := 32, attributes := #[] }, { accessFlags := 18, nameIndex := 34, descriptorIndex := 45, attributes := #[] }, { accessFlags := 18, nameIndex := 48, descriptorIndex := 32, attributes := #[] }, { accessFlags := 2, nameIndex := 51, descriptorIndex := 32, attributes := #[] }, { accessFlags := 18, nameIndex := 54, descriptorIndex := 32, attributes := #[] }, { accessFlags := 18, nameIndex := 57, descriptorIndex := 45, attributes := #[] }, { accessFlags := 18, nameIndex := 14, descriptorIndex := 15, attributes := #[] }, { accessFlags := 2, nameIndex := 18, descriptorIndex := 19, attributes := #[] }, { accessFlags := 2, nameIndex := 28, descriptorIndex := 25, attributes := #[] }])
  fields := #[{ name := "RESPONSE_FLAG", type := .int, accessFlags := 25, slot := 0, constantValue := 0 }, { name := "ONEWAY_FLAG", type := .int, accessFlags := 25, slot := 1, constantValue := 0 }, { name := "LANGUAGE", type := (.object "java/lang/String"), accessFlags := 25, slot := 2, constantValue := 0 }, { name := "VERSION", type := .int, accessFlags := 25, slot := 3, constantValue := 0 }, { name := "code", type := .int, accessFlags := 18, slot := 0, constantValue := 0 }, { name := "language", type := (.object "java/lang/String"), accessFlags := 18, slot := 1, constantValue := 0 }, { name := "version", type := .int, accessFlags := 18, slot := 2, constantValue := 0 }, { name := "opaque", type := .int, accessFlags := 2, slot := 3, constantValue := 0 }, { name := "flag", type := .int, accessFlags := 18, slot := 4, constantValue := 0 }, { name := "remark", type := (.object "java/lang/String"), accessFlags := 18, slot := 5, constantValue := 0 }, { name := "extFields", type := (.object "java/util/Map"), accessFlags := 18, slot := 6, constantValue := 0 }, { name := "body", type := (.array .byte), accessFlags := 2, slot := 7, constantValue := 0 }, { name := "headerEncoding", type := (.object "com/example/ample_queue/amplequeue/protocol/HeaderEncoding"), accessFlags := 2, slot := 8, constantValue := 0 }]
  methods := #[k9m0, k9m1]
  instanceTypes := #[.int, (.object "java/lang/String"), .int, .int, .int, (.object "java/lang/String"), (.object "java/util/Map"), (.array .byte), (.object "com/example/ample_queue/amplequeue/protocol/HeaderEncoding")]
  staticTypes := #[.int, .int, (.object "java/lang/String"), .int]
  resolved := Array.replicate 192 none
  statics := none }

def pool10 : Array CpInfo := pool [(2, .class_ 4), (1, u "java/util/Map"), (31, .class_ 37), (0, u "java/util/Map$Entry"), (55, .class_ 94), (0, u "java/lang/Object")] 168

/-- java/util/Map -/
def k10 : Class := { plain "java/util/Map" (some 0) with
  accessFlags := 1537
  interfaces := #[]
  cf := some (fileOf pool10 2 #[.nestMembers #[36]] #[] 1537 93 #[] #[])
  fields := #[]
  methods := #[]
  instanceTypes := #[]
  staticTypes := #[]
  resolved := Array.replicate 263 none
  statics := none }

def pool11 : Array CpInfo := pool [(1, .methodref 2 3), (0, .class_ 4), (0, .nameAndType 5 6), (0, u "java/lang/Object"), (0, u "<init>"), (0, u "()V"), (1, .class_ 10), (1, u "java/util/AbstractMap"), (42, .class_ 54), (0, u "java/util/Map"), (9, u "keySet"), (0, u "Ljava/util/Set;"), (0, .class_ 67), (0, u "java/util/AbstractMap$1"), (5, u "values"), (0, u "Ljava/util/Collection;"), (0, .class_ 76), (0, u "java/util/AbstractMap$2"), (104, .class_ 182), (0, u "java/util/AbstractMap$ViewCollection"), (0, .class_ 184), (0, u "java/util/AbstractMap$SimpleImmutableEntry"), (0, .class_ 186), (0, u "java/util/AbstractMap$SimpleEntry"), (0, .class_ 188), (0, u "java/util/AbstractMap$2$1"), (0, .class_ 190), (0, u "java/util/AbstractMap$1$1")] 5

def k11c0 : Code := { maxStack := 1, maxLocals := 1, code := jdk_71_method_1_code, exceptionTable := #[], attributes := #[] }
def k11m0 : Method := { name := "<init>", desc := "()V", sig := { parameters := [], returnType := none }, accessFlags := 4, code := some k11c0 }
/-- java/util/AbstractMap -/
def k11 : Class := { plain "java/util/AbstractMap" (some 0) with
  accessFlags := 1057
  interfaces := #[10]
  cf := some (fileOf pool11 8 #[.nestMembers #[181, 183, 185, 75, 187, 66, 189]] #[{ accessFlags := 4, nameIndex := 5, descriptorIndex := 6, attributes := #[] }] 1057 2 #[53] #[{ accessFlags := 128, nameIndex := 64, descriptorIndex := 65, attributes := #[] }, { accessFlags := 128, nameIndex := 73, descriptorIndex := 74, attributes := #[] }])
  fields := #[{ name := "keySet", type := (.object "java/util/Set"), accessFlags := 128, slot := 0, constantValue := 0 }, { name := "values", type := (.object "java/util/Collection"), accessFlags := 128, slot := 1, constantValue := 0 }]
  methods := #[k11m0]
  instanceTypes := #[(.object "java/util/Set"), (.object "java/util/Collection")]
  staticTypes := #[]
  resolved := Array.replicate 196 none
  statics := none }

def pool12 : Array CpInfo := pool [(1, .class_ 2), (0, u "java/lang/Cloneable"), (0, .class_ 4), (0, u "java/lang/Object")] 2

/-- java/lang/Cloneable -/
def k12 : Class := { plain "java/lang/Cloneable" (some 0) with
  accessFlags := 1537
  interfaces := #[]
  cf := some (fileOf pool12 1 #[] #[] 1537 3 #[] #[])
  fields := #[]
  methods := #[]
  instanceTypes := #[]
  staticTypes := #[]
  resolved := Array.replicate 7 none
  statics := none }

def pool13 : Array CpInfo := pool [(40, .class_ 41), (0, u "java/util/HashMap"), (1, .methodref 44 45), (0, .class_ 46), (0, .nameAndType 47 48), (0, u "java/util/AbstractMap"), (0, u "<init>"), (0, u "()V"), (32, .fieldref 40 82), (0, .nameAndType 83 84), (0, u "loadFactor"), (0, u "F"), (5, u "threshold"), (0, u "I"), (0, .float 1061158912), (8, .class_ 103), (1, u "java/util/Map"), (0, u "size"), (2, u "table"), (0, u "[Ljava/util/HashMap$Node;"), (14, u "entrySet"), (39, .class_ 165), (1, u "java/util/HashMap$Node"), (14, .class_ 181), (0, u "java/util/HashMap$TreeNode"), (22, u "modCount"), (37, u "Ljava/util/Set;"), (0, .class_ 244), (0, u "java/util/HashMap$KeySet"), (18, .class_ 264), (0, u "java/util/HashMap$Values"), (3, .class_ 269), (0, u "java/util/HashMap$EntrySet"), (76, .class_ 348), (1, u "java/util/HashMap$UnsafeHolder"), (43, .class_ 393), (0, u "java/lang/Cloneable"), (0, .class_ 395), (0, u "java/io/Serializable"), (0, u "serialVersionUID"), (0, u "J"), (3, u "DEFAULT_INITIAL_CAPACITY"), (1, u "MAXIMUM_CAPACITY"), (0, u "DEFAULT_LOAD_FACTOR"), (0, u "TREEIFY_THRESHOLD"), (1, u "UNTREEIFY_THRESHOLD"), (1, u "MIN_TREEIFY_CAPACITY"), (186, .class_ 597), (0, u "java/util/HashMap$EntrySpliterator"), (0, .class_ 599), (0, u "java/util/HashMap$ValueSpliterator"), (0, .class_ 601), (0, u "java/util/HashMap$KeySpliterator"), (0, .class_ 603), (0, u "java/util/HashMap$HashMapSpliterator"), (0, .class_ 605), (0, u "java/util/HashMap$EntryIterator"), (0, .class_ 607), (0, u "java/util/HashMap$ValueIterator"), (0, .class_ 609), (0, u "java/util/HashMap$KeyIterator"), (0, .class_ 611), (0, u "java/util/HashMap$HashIterator")] 17

def k13c0 : Code := { maxStack := 2, maxLocals := 1, code := jdk_69_method_7_code, exceptionTable := #[], attributes := #[] }
def k13m0 : Method := { name := "<init>", desc := "()V", sig := { parameters := [], returnType := none }, accessFlags := 1, code := some k13c0 }
/-- java/util/HashMap -/
def k13 : Class := { plain "java/util/HashMap" (some 11) with
  accessFlags := 33
  interfaces := #[10, 12, 2]
  cf := some (fileOf pool13 40 #[.nestMembers #[180, 596, 598, 600, 602, 604, 606, 608, 610, 346, 268, 263, 243, 163]] #[{ accessFlags := 1, nameIndex := 47, descriptorIndex := 48, attributes := #[] }] 33 44 #[101, 392, 394] #[{ accessFlags := 26, nameIndex := 396, descriptorIndex := 397, attributes := #[] }, { accessFlags := 24, nameIndex := 401, descriptorIndex := 91, attributes := #[] }, { accessFlags := 24, nameIndex := 403, descriptorIndex := 91, attributes := #[] }, { accessFlags := 24, nameIndex := 404, descriptorIndex := 84, attributes := #[] }, { accessFlags := 24, nameIndex := 405, descriptorIndex := 91, attributes := #[] }, { accessFlags := 24, nameIndex := 407, descriptorIndex := 91, attributes := #[] }, { accessFlags := 24, nameIndex := 409, descriptorIndex := 91, attributes := #[] }, { accessFlags := 128, nameIndex := 107, descriptorIndex := 108, attributes := #[] }, { accessFlags := 128, nameIndex := 123, descriptorIndex := 242, attributes := #[] }, { accessFlags := 128, nameIndex := 104, descriptorIndex := 91, attributes := #[] }, { accessFlags := 128, nameIndex := 204, descriptorIndex := 91, attributes := #[] }, { accessFlags := 0, nameIndex := 90, descriptorIndex := 91, attributes := #[] }, { accessFlags := 16, nameIndex := 83, descriptorIndex := 84, attributes := #[] }])
  fields := #[{ name := "serialVersionUID", type := .long, accessFlags := 26, slot := 0, constantValue := 0 }, { name := "DEFAULT_INITIAL_CAPACITY", type := .int, accessFlags := 24, slot := 1, constantValue := 0 }, { name := "MAXIMUM_CAPACITY", type := .int, accessFlags := 24, slot := 2, constantValue := 0 }, { name := "DEFAULT_LOAD_FACTOR", type := .float, accessFlags := 24, slot := 3, constantValue := 0 }, { name := "TREEIFY_THRESHOLD", type := .int, accessFlags := 24, slot := 4, constantValue := 0 }, { name := "UNTREEIFY_THRESHOLD", type := .int, accessFlags := 24, slot := 5, constantValue := 0 }, { name := "MIN_TREEIFY_CAPACITY", type := .int, accessFlags := 24, slot := 6, constantValue := 0 }, { name := "table", type := (.array (.object "java/util/HashMap$Node")), accessFlags := 128, slot := 2, constantValue := 0 }, { name := "entrySet", type := (.object "java/util/Set"), accessFlags := 128, slot := 3, constantValue := 0 }, { name := "size", type := .int, accessFlags := 128, slot := 4, constantValue := 0 }, { name := "modCount", type := .int, accessFlags := 128, slot := 5, constantValue := 0 }, { name := "threshold", type := .int, accessFlags := 0, slot := 6, constantValue := 0 }, { name := "loadFactor", type := .float, accessFlags := 16, slot := 7, constantValue := 0 }]
  methods := #[k13m0]
  instanceTypes := #[(.object "java/util/Set"), (.object "java/util/Collection"), (.array (.object "java/util/HashMap$Node")), (.object "java/util/Set"), .int, .int, .int, .float]
  staticTypes := #[.long, .int, .int, .float, .int, .int, .int]
  resolved := Array.replicate 629 none
  statics := none }

def pool14 : Array CpInfo := pool [(2, .class_ 4), (1, u "java/util/SequencedMap"), (38, .class_ 44), (0, u "java/util/SequencedMap$1SeqKeySet"), (3, .class_ 49), (0, u "java/util/SequencedMap$1SeqValues"), (1, .class_ 52), (0, u "java/util/SequencedMap$1SeqEntrySet"), (1, .class_ 55), (0, u "java/lang/Object"), (0, .class_ 57), (0, u "java/util/Map")] 48

/-- java/util/SequencedMap -/
def k14 : Class := { plain "java/util/SequencedMap" (some 0) with
  accessFlags := 1537
  interfaces := #[10]
  cf := some (fileOf pool14 2 #[.nestMembers #[51, 48, 43]] #[] 1537 54 #[56] #[])
  fields := #[]
  methods := #[]
  instanceTypes := #[]
  staticTypes := #[]
  resolved := Array.replicate 106 none
  statics := none }

def pool15 : Array CpInfo := pool [(1, .fieldref 2 3), (0, .class_ 4), (0, .nameAndType 5 6), (0, u "java/util/LinkedHashMap"), (0, u "putMode"), (0, u "I"), (2, u "head"), (0, u "Ljava/util/LinkedHashMap$Entry;"), (2, u "tail"), (1, .class_ 17), (1, u "java/util/LinkedHashMap$Entry"), (5, .class_ 25), (1, u "java/util/HashMap"), (1, u "()V"), (2, u "<init>"), (33, .fieldref 2 65), (0, .nameAndType 66 67), (0, u "accessOrder"), (0, u "Z"), (19, .methodref 23 88), (0, .nameAndType 30 27), (32, .class_ 122), (0, u "java/util/LinkedHashMap$LinkedKeySet"), (20, .class_ 144), (0, u "java/util/LinkedHashMap$LinkedValues"), (9, .class_ 155), (0, u "java/util/LinkedHashMap$LinkedEntrySet"), (44, .class_ 201), (0, u "java/util/LinkedHashMap$ReversedLinkedHashMapView"), (3, .class_ 206), (0, u "java/util/SequencedMap"), (0, u "serialVersionUID"), (0, u "J"), (5, u "PUT_NORM"), (1, u "PUT_FIRST"), (1, u "PUT_LAST"), (143, .class_ 363), (0, u "java/util/LinkedHashMap$LinkedEntryIterator"), (0, .class_ 365), (0, u "java/util/LinkedHashMap$LinkedValueIterator"), (0, .class_ 367), (0, u "java/util/LinkedHashMap$LinkedKeyIterator"), (0, .class_ 369), (0, u "java/util/LinkedHashMap$LinkedHashIterator")] 16

def k15c0 : Code := { maxStack := 2, maxLocals := 1, code := jdk_94_method_16_code, exceptionTable := #[], attributes := #[] }
def k15m0 : Method := { name := "<init>", desc := "()V", sig := { parameters := [], returnType := none }, accessFlags := 1, code := some k15c0 }
/-- java/util/LinkedHashMap -/
def k15 : Class := { plain "java/util/LinkedHashMap" (some 13) with
  accessFlags := 33
  interfaces := #[14]
  cf := some (fileOf pool15 2 #[.nestMembers #[200, 362, 364, 366, 368, 154, 143, 121, 15]] #[{ accessFlags := 1, nameIndex := 30, descriptorIndex := 27, attributes := #[] }] 33 23 #[205] #[{ accessFlags := 26, nameIndex := 207, descriptorIndex := 208, attributes := #[] }, { accessFlags := 128, nameIndex := 9, descriptorIndex := 10, attributes := #[] }, { accessFlags := 128, nameIndex := 13, descriptorIndex := 10, attributes := #[] }, { accessFlags := 16, nameIndex := 66, descriptorIndex := 67, attributes := #[] }, { accessFlags := 24, nameIndex := 214, descriptorIndex := 6, attributes := #[] }, { accessFlags := 24, nameIndex := 216, descriptorIndex := 6, attributes := #[] }, { accessFlags := 24, nameIndex := 218, descriptorIndex := 6, attributes := #[] }, { accessFlags := 128, nameIndex := 5, descriptorIndex := 6, attributes := #[] }])
  fields := #[{ name := "serialVersionUID", type := .long, accessFlags := 26, slot := 0, constantValue := 0 }, { name := "head", type := (.object "java/util/LinkedHashMap$Entry"), accessFlags := 128, slot := 8, constantValue := 0 }, { name := "tail", type := (.object "java/util/LinkedHashMap$Entry"), accessFlags := 128, slot := 9, constantValue := 0 }, { name := "accessOrder", type := .boolean, accessFlags := 16, slot := 10, constantValue := 0 }, { name := "PUT_NORM", type := .int, accessFlags := 24, slot := 1, constantValue := 0 }, { name := "PUT_FIRST", type := .int, accessFlags := 24, slot := 2, constantValue := 0 }, { name := "PUT_LAST", type := .int, accessFlags := 24, slot := 3, constantValue := 0 }, { name := "putMode", type := .int, accessFlags := 128, slot := 11, constantValue := 0 }]
  methods := #[k15m0]
  instanceTypes := #[(.object "java/util/Set"), (.object "java/util/Collection"), (.array (.object "java/util/HashMap$Node")), (.object "java/util/Set"), .int, .int, .int, .float, (.object "java/util/LinkedHashMap$Entry"), (.object "java/util/LinkedHashMap$Entry"), .boolean, .int]
  staticTypes := #[.long, .int, .int, .int]
  resolved := Array.replicate 386 none
  statics := none }

def pool16 : Array CpInfo := pool [(2, .class_ 4), (1, u "java/lang/Enum"), (0, u "name"), (0, u "Ljava/lang/String;"), (2, u "ordinal"), (0, u "I"), (1, .class_ 14), (1, u "java/lang/Object"), (4, u "hash"), (86, .class_ 108), (1, u "java/lang/Enum$EnumDesc"), (2, .class_ 112), (0, u "java/lang/constant/Constable"), (0, .class_ 114), (0, u "java/lang/Comparable"), (0, .class_ 116), (0, u "java/io/Serializable")] 87

/-- java/lang/Enum -/
def k16 : Class := { plain "java/lang/Enum" (some 0) with
  accessFlags := 1057
  interfaces := #[5, 3, 2]
  cf := some (fileOf pool16 2 #[.nestMembers #[106]] #[] 1057 12 #[111, 113, 115] #[{ accessFlags := 18, nameIndex := 5, descriptorIndex := 6, attributes := #[] }, { accessFlags := 18, nameIndex := 9, descriptorIndex := 10, attributes := #[] }, { accessFlags := 2, nameIndex := 19, descriptorIndex := 10, attributes := #[] }])
  fields := #[{ name := "name", type := (.object "java/lang/String"), accessFlags := 18, slot := 0, constantValue := 0 }, { name := "ordinal", type := .int, accessFlags := 18, slot := 1, constantValue := 0 }, { name := "hash", type := .int, accessFlags := 2, slot := 2, constantValue := 0 }]
  methods := #[]
  instanceTypes := #[(.object "java/lang/String"), .int, .int]
  staticTypes := #[]
  resolved := Array.replicate 204 none
  statics := none }

def pool17 : Array CpInfo := pool [(1, .class_ 2), (0, u "com/example/ample_queue/amplequeue/protocol/HeaderEncoding"), (2, u "JSON"), (0, u "Lcom/example/ample_queue/amplequeue/protocol/HeaderEncoding;"), (2, u "BINARY"), (2, u "$VALUES"), (0, u "[Lcom/example/ample_queue/amplequeue/protocol/HeaderEncoding;"), (6, .class_ 22), (1, u "java/lang/Enum"), (8, u "code"), (0, u "I"), (2, u "ALL")] 27

/-- com/example/ample_queue/amplequeue/protocol/HeaderEncoding -/
def k17 : Class := { plain "com/example/ample_queue/amplequeue/protocol/HeaderEncoding" (some 16) with
  accessFlags := 16433
  interfaces := #[]
  cf := some (fileOf pool17 1 #[] #[] 16433 20 #[] #[{ accessFlags := 16409, nameIndex := 5, descriptorIndex := 6, attributes := #[] }, { accessFlags := 16409, nameIndex := 9, descriptorIndex := 6, attributes := #[] }, { accessFlags := 26, nameIndex := 35, descriptorIndex := 13, attributes := #[] }, { accessFlags := 18, nameIndex := 31, descriptorIndex := 32, attributes := #[] }, { accessFlags := 4122, nameIndex := 12, descriptorIndex := 13, attributes := #[] }])
  fields := #[{ name := "JSON", type := (.object "com/example/ample_queue/amplequeue/protocol/HeaderEncoding"), accessFlags := 16409, slot := 0, constantValue := 0 }, { name := "BINARY", type := (.object "com/example/ample_queue/amplequeue/protocol/HeaderEncoding"), accessFlags := 16409, slot := 1, constantValue := 0 }, { name := "ALL", type := (.array (.object "com/example/ample_queue/amplequeue/protocol/HeaderEncoding")), accessFlags := 26, slot := 2, constantValue := 0 }, { name := "code", type := .int, accessFlags := 18, slot := 3, constantValue := 0 }, { name := "$VALUES", type := (.array (.object "com/example/ample_queue/amplequeue/protocol/HeaderEncoding")), accessFlags := 4122, slot := 3, constantValue := 0 }]
  methods := #[]
  instanceTypes := #[(.object "java/lang/String"), .int, .int, .int]
  staticTypes := #[(.object "com/example/ample_queue/amplequeue/protocol/HeaderEncoding"), (.object "com/example/ample_queue/amplequeue/protocol/HeaderEncoding"), (.array (.object "com/example/ample_queue/amplequeue/protocol/HeaderEncoding")), (.array (.object "com/example/ample_queue/amplequeue/protocol/HeaderEncoding"))]
  resolved := Array.replicate 63 none
  statics := some 1 }

def pool18 : Array CpInfo := pool [(2, .class_ 4), (1, u "java/lang/Object"), (0, u "<init>"), (0, u "()V"), (35, .class_ 44), (1, u "java/util/Objects"), (0, u "requireNonNull"), (48, u "(Ljava/lang/Object;Ljava/lang/String;)Ljava/lang/Object;")] 89

def k18m0 : Method := { name := "<init>", desc := "()V", sig := { parameters := [], returnType := none }, accessFlags := 2, code := none }
def k18c1 : Code := { maxStack := 3, maxLocals := 2, code := jdk_31_method_11_code, exceptionTable := #[], attributes := #[] }
def k18m1 : Method := { name := "requireNonNull", desc := "(Ljava/lang/Object;Ljava/lang/String;)Ljava/lang/Object;", sig := { parameters := [(.object "java/lang/Object"), (.object "java/lang/String")], returnType := some (.object "java/lang/Object") }, accessFlags := 9, code := some k18c1 }
/-- java/util/Objects -/
def k18 : Class := { plain "java/util/Objects" (some 0) with
  accessFlags := 49
  interfaces := #[]
  cf := some (fileOf pool18 42 #[] #[{ accessFlags := 2, nameIndex := 5, descriptorIndex := 6, attributes := #[] }, { accessFlags := 9, nameIndex := 45, descriptorIndex := 94, attributes := #[] }] 49 2 #[] #[])
  fields := #[]
  methods := #[k18m0, k18m1]
  instanceTypes := #[]
  staticTypes := #[]
  resolved := Array.replicate 184 none
  statics := none }

def pool19 : Array CpInfo := pool [(2, .class_ 4), (1, u "java/lang/Object"), (0, u "<init>"), (0, u "()V"), (17, .class_ 26), (1, u "jdk/internal/util/Preconditions"), (28, .class_ 56), (0, u "jdk/internal/util/Preconditions$4"), (57, .class_ 115), (0, u "jdk/internal/util/Preconditions$1"), (7, u "SIOOBE_FORMATTER"), (0, u "Ljava/util/function/BiFunction;"), (0, .class_ 126), (0, u "jdk/internal/util/Preconditions$2"), (3, u "AIOOBE_FORMATTER"), (0, .class_ 132), (0, u "jdk/internal/util/Preconditions$3"), (3, u "IOOBE_FORMATTER")] 57

def k19m0 : Method := { name := "<init>", desc := "()V", sig := { parameters := [], returnType := none }, accessFlags := 1, code := none }
/-- jdk/internal/util/Preconditions -/
def k19 : Class := { plain "jdk/internal/util/Preconditions" (some 0) with
  accessFlags := 33
  interfaces := #[]
  cf := some (fileOf pool19 24 #[.nestMembers #[55, 131, 125, 114]] #[{ accessFlags := 1, nameIndex := 5, descriptorIndex := 6, attributes := #[] }] 33 2 #[] #[{ accessFlags := 25, nameIndex := 123, descriptorIndex := 124, attributes := #[] }, { accessFlags := 25, nameIndex := 130, descriptorIndex := 124, attributes := #[] }, { accessFlags := 25, nameIndex := 136, descriptorIndex := 124, attributes := #[] }])
  fields := #[{ name := "SIOOBE_FORMATTER", type := (.object "java/util/function/BiFunction"), accessFlags := 25, slot := 0, constantValue := 0 }, { name := "AIOOBE_FORMATTER", type := (.object "java/util/function/BiFunction"), accessFlags := 25, slot := 1, constantValue := 0 }, { name := "IOOBE_FORMATTER", type := (.object "java/util/function/BiFunction"), accessFlags := 25, slot := 2, constantValue := 0 }]
  methods := #[k19m0]
  instanceTypes := #[]
  staticTypes := #[(.object "java/util/function/BiFunction"), (.object "java/util/function/BiFunction"), (.object "java/util/function/BiFunction")]
  resolved := Array.replicate 194 none
  statics := some 2 }

def pool20 : Array CpInfo := pool [(9, u "<init>"), (6, .class_ 18), (1, u "java/lang/Object"), (0, u "()V"), (1, .class_ 23), (1, u "jdk/internal/util/ArraysSupport"), (0, u "LOG2_ARRAY_LONG_INDEX_SCALE"), (0, u "I"), (2, u "U"), (0, u "Ljdk/internal/misc/Unsafe;"), (8, u "BIG_ENDIAN"), (0, u "Z"), (8, u "LOG2_BYTE_BIT_SIZE"), (4, u "LOG2_ARRAY_INT_INDEX_SCALE"), (54, u "JLA"), (0, u "Ljdk/internal/access/JavaLangAccess;"), (11, u "LOG2_ARRAY_BOOLEAN_INDEX_SCALE"), (9, u "LOG2_ARRAY_BYTE_INDEX_SCALE"), (5, u "LOG2_ARRAY_CHAR_INDEX_SCALE"), (5, u "LOG2_ARRAY_SHORT_INDEX_SCALE"), (18, u "LOG2_ARRAY_FLOAT_INDEX_SCALE"), (24, u "LOG2_ARRAY_DOUBLE_INDEX_SCALE"), (89, u "T_BOOLEAN"), (2, u "T_CHAR"), (1, u "T_FLOAT"), (1, u "T_DOUBLE"), (1, u "T_BYTE"), (1, u "T_SHORT"), (1, u "T_INT"), (1, u "T_LONG"), (1, u "SOFT_MAX_ARRAY_LENGTH")] 83

def k20m0 : Method := { name := "<init>", desc := "()V", sig := { parameters := [], returnType := none }, accessFlags := 2, code := none }
/-- jdk/internal/util/ArraysSupport -/
def k20 : Class := { plain "jdk/internal/util/ArraysSupport" (some 0) with
  accessFlags := 33
  interfaces := #[]
  cf := some (fileOf pool20 21 #[] #[{ accessFlags := 2, nameIndex := 9, descriptorIndex := 19, attributes := #[] }] 33 16 #[] #[{ accessFlags := 24, nameIndex := 28, descriptorIndex := 29, attributes := #[] }, { accessFlags := 26, nameIndex := 38, descriptorIndex := 39, attributes := #[] }, { accessFlags := 25, nameIndex := 121, descriptorIndex := 25, attributes := #[] }, { accessFlags := 25, nameIndex := 131, descriptorIndex := 25, attributes := #[] }, { accessFlags := 25, nameIndex := 137, descriptorIndex := 25, attributes := #[] }, { accessFlags := 25, nameIndex := 143, descriptorIndex := 25, attributes := #[] }, { accessFlags := 25, nameIndex := 53, descriptorIndex := 25, attributes := #[] }, { accessFlags := 25, nameIndex := 24, descriptorIndex := 25, attributes := #[] }, { accessFlags := 25, nameIndex := 162, descriptorIndex := 25, attributes := #[] }, { accessFlags := 25, nameIndex := 187, descriptorIndex := 25, attributes := #[] }, { accessFlags := 26, nameIndex := 48, descriptorIndex := 25, attributes := #[] }, { accessFlags := 25, nameIndex := 277, descriptorIndex := 25, attributes := #[] }, { accessFlags := 25, nameIndex := 280, descriptorIndex := 25, attributes := #[] }, { accessFlags := 25, nameIndex := 282, descriptorIndex := 25, attributes := #[] }, { accessFlags := 25, nameIndex := 284, descriptorIndex := 25, attributes := #[] }, { accessFlags := 25, nameIndex := 286, descriptorIndex := 25, attributes := #[] }, { accessFlags := 25, nameIndex := 288, descriptorIndex := 25, attributes := #[] }, { accessFlags := 25, nameIndex := 290, descriptorIndex := 25, attributes := #[] }, { accessFlags := 25, nameIndex := 292, descriptorIndex := 25, attributes := #[] }, { accessFlags := 26, nameIndex := 108, descriptorIndex := 109, attributes := #[] }, { accessFlags := 25, nameIndex := 294, descriptorIndex := 25, attributes := #[] }])
  fields := #[{ name := "U", type := (.object "jdk/internal/misc/Unsafe"), accessFlags := 24, slot := 0, constantValue := 0 }, { name := "BIG_ENDIAN", type := .boolean, accessFlags := 26, slot := 1, constantValue := 0 }, { name := "LOG2_ARRAY_BOOLEAN_INDEX_SCALE", type := .int, accessFlags := 25, slot := 2, constantValue := 0 }, { name := "LOG2_ARRAY_BYTE_INDEX_SCALE", type := .int, accessFlags := 25, slot := 3, constantValue := 0 }, { name := "LOG2_ARRAY_CHAR_INDEX_SCALE", type := .int, accessFlags := 25, slot := 4, constantValue := 0 }, { name := "LOG2_ARRAY_SHORT_INDEX_SCALE", type := .int, accessFlags := 25, slot := 5, constantValue := 0 }, { name := "LOG2_ARRAY_INT_INDEX_SCALE", type := .int, accessFlags := 25, slot := 6, constantValue := 0 }, { name := "LOG2_ARRAY_LONG_INDEX_SCALE", type := .int, accessFlags := 25, slot := 7, constantValue := 0 }, { name := "LOG2_ARRAY_FLOAT_INDEX_SCALE", type := .int, accessFlags := 25, slot := 8, constantValue := 0 }, { name := "LOG2_ARRAY_DOUBLE_INDEX_SCALE", type := .int, accessFlags := 25, slot := 9, constantValue := 0 }, { name := "LOG2_BYTE_BIT_SIZE", type := .int, accessFlags := 26, slot := 10, constantValue := 0 }, { name := "T_BOOLEAN", type := .int, accessFlags := 25, slot := 11, constantValue := 0 }, { name := "T_CHAR", type := .int, accessFlags := 25, slot := 12, constantValue := 0 }, { name := "T_FLOAT", type := .int, accessFlags := 25, slot := 13, constantValue := 0 }, { name := "T_DOUBLE", type := .int, accessFlags := 25, slot := 14, constantValue := 0 }, { name := "T_BYTE", type := .int, accessFlags := 25, slot := 15, constantValue := 0 }, { name := "T_SHORT", type := .int, accessFlags := 25, slot := 16, constantValue := 0 }, { name := "T_INT", type := .int, accessFlags := 25, slot := 17, constantValue := 0 }, { name := "T_LONG", type := .int, accessFlags := 25, slot := 18, constantValue := 0 }, { name := "JLA", type := (.object "jdk/internal/access/JavaLangAccess"), accessFlags := 26, slot := 19, constantValue := 0 }, { name := "SOFT_MAX_ARRAY_LENGTH", type := .int, accessFlags := 25, slot := 20, constantValue := 0 }]
  methods := #[k20m0]
  instanceTypes := #[]
  staticTypes := #[(.object "jdk/internal/misc/Unsafe"), .boolean, .int, .int, .int, .int, .int, .int, .int, .int, .int, .int, .int, .int, .int, .int, .int, .int, .int, (.object "jdk/internal/access/JavaLangAccess"), .int]
  resolved := Array.replicate 378 none
  statics := none }

/-- the primitive byte -/
def k21 : Class := { plain "byte" none with kind := .primitive 'B', accessFlags := 0x411 }
/-- [B -/
def k22 : Class := { plain "[B" (some 0) with kind := .array 21 .byte, interfaces := #[12, 2], accessFlags := 1041 }

/-- the primitive int -/
def k23 : Class := { plain "int" none with kind := .primitive 'I', accessFlags := 0x411 }
/-- [I -/
def k24 : Class := { plain "[I" (some 0) with kind := .array 23 .int, interfaces := #[12, 2], accessFlags := 1041 }

def heap : Heap := #[{ cls := 7, slots := #[.long 0, .int 1, .null, .int 0, .null, .int 0, .int 0], vm := .statics 7 },
  { cls := 17, slots := #[.ref 3, .null, .null, .null], vm := .statics 17 },
  { cls := 19, slots := #[.null, .null, .null], vm := .statics 19 },
  { cls := 17, slots := #[.null, .int 0, .int 0, .int 0], vm := .none }]
def classes : Array Class := #[k0, k1, k2, k3, k4, k5, k6, k7, k8, k9, k10, k11, k12, k13, k14, k15, k16, k17, k18, k19, k20, k21, k22, k23, k24]
def interned : List (Array UInt16 × Addr) := []
def slotsUsed : Nat := 18
def theMethod : MethodId := ⟨1, 1⟩
def args0 : Array Value := #[.int 5, .int 6, .int 7, .int 8, .int 9]
def aboutOver (below : List Frame) : State where
  vm := { classes := classes, interned := interned.toArray }
  heap := heap
  slotsUsed := slotsUsed
  threads := #[{ frames := .invoking theMethod args0 :: below }]
def below0 : List Frame := [.native { method := ⟨0, 0⟩, args := #[] }]
def about1 : State := aboutOver below0
def p0 : Program := .bare "" "" ""
def e0 : Env := launch0.env 0 0 0
theorem w_frames : about1.frames = Frame.invoking theMethod args0 :: below0 := rfl
set_option maxRecDepth 65536 in
theorem w_args : argsFit about1.vm theMethod args0 = true := by decide +kernel
set_option maxRecDepth 65536 in
theorem w_heap : heapFits about1 = true := by decide +kernel
set_option maxRecDepth 65536 in
theorem w_runnable : about1.curStatus? = some .runnable := by decide +kernel
set_option maxRecDepth 65536 in
theorem w_alone : about1.alone = true := by decide +kernel
set_option maxRecDepth 65536 in
theorem w_named : about1.methodNamed? x = some theMethod := by decide +kernel
set_option maxRecDepth 65536 in
theorem w_hears : about1.hears theMethod below0 = true := by decide +kernel
set_option maxRecDepth 65536 in
theorem w_ripe : about1.ripe theMethod args0 below0 = true := by decide +kernel
theorem w_running : about1.status = .running := rfl
set_option maxRecDepth 65536 in
theorem w_room : about1.hasRoom e0.platform room_1 = true :=
  launch0.hasRoom_least _ room_1 (by decide +kernel) (by decide +kernel) (by decide +kernel) (by decide +kernel) (by decide +kernel) (by decide +kernel)
theorem allAtoms_all (ts : List Jvm.Cond) (a : Array Jvm.Value) (st : Jvm.State) : (allAtoms ts).before a st = ts.all (fun c => c.before a st) := by
  induction ts with
  | nil => rfl
  | cons c t ih =>
    show (Jvm.Cond.and c (allAtoms t)).before a st = _
    rw [Jvm.Cond.before_and, ih, List.all_cons]
def words1 : List Jvm.Cond := Jvm.Cond.code x code maxLocals ret :: tables_1
/-- a 'code' word, met by the world's own term for the bytes: nothing is compared byte by byte -/
theorem code_word {y : MethodName} {bytes : ByteArray} {mx : Nat} {rt : Option FieldType} {a : Array Value} {s : State} {m : MethodId} {meth : Method} {c : Code} (h1 : s.methodNamed? y = some m) (h2 : s.vm.method? m = some meth) (h3 : meth.code = some c) (h4 : c.code = bytes)
    (h5 : (c.maxLocals == mx && c.exceptionTable.isEmpty && decide (c.maxStack ≤ mostOperands) && decide (meth.sig.returnType = rt) && !meth.locks && decide (parseMethodDescriptor y.desc = some meth.sig)) = true) : (Jvm.Cond.code y bytes mx rt).before a s = true := by
  simp only [Bool.and_eq_true, beq_iff_eq, Bool.not_eq_true', decide_eq_true_eq] at h5
  obtain ⟨⟨⟨⟨⟨g1, g2⟩, g3⟩, g4⟩, g5⟩, g6⟩ := h5
  simp [Cond.before, Cond.holds, Cond.value, h1, h2, h3, h4, g1, g2, g3, g4, g5, g6]
def isCode : Jvm.Cond → Bool
  | .code _ _ _ _ => true
  | _ => false
theorem all_split {L : List Jvm.Cond} {P : Jvm.Cond → Bool} (h1 : L.all (fun c => isCode c || P c) = true) (h2 : ∀ c ∈ L.filter isCode, P c = true) : L.all P = true := by
  refine List.all_eq_true.mpr fun c hc => ?_
  have h := List.all_eq_true.mp h1 c hc
  rcases Bool.eq_false_or_eq_true (isCode c) with hi | hi
  · exact h2 c (List.mem_filter.mpr ⟨hc, hi⟩)
  · simpa [hi] using h
set_option maxRecDepth 65536 in
theorem w_c0 : (Jvm.Cond.code x code maxLocals ret).before args0 about1 = true := code_word (m := ⟨1, 1⟩) (meth := k1m1) (c := k1c1) (by decide +kernel) rfl rfl rfl (by decide +kernel)
set_option maxRecDepth 65536 in
theorem w_c1 : (Jvm.Cond.code ({ cls := "java/lang/String", name := "valueOf", desc := "(C)Ljava/lang/String;" } : Jvm.MethodName) jdk_42_method_139_code (1 : Nat) (Option.some (Jvm.ClassFile.FieldType.object "java/lang/String"))).before args0 about1 = true := code_word (m := ⟨7, 1⟩) (meth := k7m1) (c := k7c1) (by decide +kernel) rfl rfl rfl (by decide +kernel)
set_option maxRecDepth 65536 in
theorem w_c2 : (Jvm.Cond.code ({ cls := "java/lang/StringLatin1", name := "canEncode", desc := "(C)Z" } : Jvm.MethodName) jdk_43_method_3_code (1 : Nat) (Option.some Jvm.ClassFile.FieldType.boolean)).before args0 about1 = true := code_word (m := ⟨8, 1⟩) (meth := k8m1) (c := k8c1) (by decide +kernel) rfl rfl rfl (by decide +kernel)
set_option maxRecDepth 65536 in
theorem w_c3 : (Jvm.Cond.code ({ cls := "java/lang/StringLatin1", name := "toBytes", desc := "(C)[B" } : Jvm.MethodName) jdk_43_method_46_code (1 : Nat) (Option.some (Jvm.ClassFile.FieldType.array Jvm.ClassFile.FieldType.byte))).before args0 about1 = true := code_word (m := ⟨8, 2⟩) (meth := k8m2) (c := k8c2) (by decide +kernel) rfl rfl rfl (by decide +kernel)
set_option maxRecDepth 65536 in
theorem w_c4 : (Jvm.Cond.code ({ cls := "java/lang/String", name := "<init>", desc := "([BB)V" } : Jvm.MethodName) jdk_42_method_151_code (3 : Nat) (Option.none : Option Jvm.ClassFile.FieldType)).before args0 about1 = true := code_word (m := ⟨7, 2⟩) (meth := k7m2) (c := k7c2) (by decide +kernel) rfl rfl rfl (by decide +kernel)
set_option maxRecDepth 65536 in
theorem w_c5 : (Jvm.Cond.code ({ cls := "java/lang/Object", name := "<init>", desc := "()V" } : Jvm.MethodName) object_method_1_code (1 : Nat) (Option.none : Option Jvm.ClassFile.FieldType)).before args0 about1 = true := code_word (m := ⟨0, 0⟩) (meth := k0m0) (c := k0c0) (by decide +kernel) rfl rfl rfl (by decide +kernel)
set_option maxRecDepth 65536 in
theorem w_c6 : (Jvm.Cond.code ({ cls := "com/example/ample_queue/amplequeue/protocol/Frame", name := "<init>", desc := "(ILjava/lang/String;IIILjava/lang/String;)V" } : Jvm.MethodName) prog_41_method_1_code (7 : Nat) (Option.none : Option Jvm.ClassFile.FieldType)).before args0 about1 = true := code_word (m := ⟨9, 0⟩) (meth := k9m0) (c := k9c0) (by decide +kernel) rfl rfl rfl (by decide +kernel)
set_option maxRecDepth 65536 in
theorem w_c7 : (Jvm.Cond.code ({ cls := "java/util/LinkedHashMap", name := "<init>", desc := "()V" } : Jvm.MethodName) jdk_94_method_16_code (1 : Nat) (Option.none : Option Jvm.ClassFile.FieldType)).before args0 about1 = true := code_word (m := ⟨15, 0⟩) (meth := k15m0) (c := k15c0) (by decide +kernel) rfl rfl rfl (by decide +kernel)
set_option maxRecDepth 65536 in
theorem w_c8 : (Jvm.Cond.code ({ cls := "java/util/HashMap", name := "<init>", desc := "()V" } : Jvm.MethodName) jdk_69_method_7_code (1 : Nat) (Option.none : Option Jvm.ClassFile.FieldType)).before args0 about1 = true := code_word (m := ⟨13, 0⟩) (meth := k13m0) (c := k13c0) (by decide +kernel) rfl rfl rfl (by decide +kernel)
set_option maxRecDepth 65536 in
theorem w_c9 : (Jvm.Cond.code ({ cls := "java/util/AbstractMap", name := "<init>", desc := "()V" } : Jvm.MethodName) jdk_71_method_1_code (1 : Nat) (Option.none : Option Jvm.ClassFile.FieldType)).before args0 about1 = true := code_word (m := ⟨11, 0⟩) (meth := k11m0) (c := k11c0) (by decide +kernel) rfl rfl rfl (by decide +kernel)
set_option maxRecDepth 65536 in
theorem w_c10 : (Jvm.Cond.code ({ cls := "java/util/Objects", name := "requireNonNull", desc := "(Ljava/lang/Object;Ljava/lang/String;)Ljava/lang/Object;" } : Jvm.MethodName) jdk_31_method_11_code (2 : Nat) (Option.some (Jvm.ClassFile.FieldType.object "java/lang/Object"))).before args0 about1 = true := code_word (m := ⟨18, 1⟩) (meth := k18m1) (c := k18c1) (by decide +kernel) rfl rfl rfl (by decide +kernel)
set_option maxRecDepth 65536 in
theorem w_c11 : (Jvm.Cond.code ({ cls := "com/example/ample_queue/amplequeue/protocol/Frame", name := "isOneway", desc := "()Z" } : Jvm.MethodName) prog_41_method_13_code (1 : Nat) (Option.some Jvm.ClassFile.FieldType.boolean)).before args0 about1 = true := code_word (m := ⟨9, 1⟩) (meth := k9m1) (c := k9c1) (by decide +kernel) rfl rfl rfl (by decide +kernel)
def codes1 : List Jvm.Cond := [Jvm.Cond.code x code maxLocals ret, Jvm.Cond.code ({ cls := "java/lang/String", name := "valueOf", desc := "(C)Ljava/lang/String;" } : Jvm.MethodName) jdk_42_method_139_code (1 : Nat) (Option.some (Jvm.ClassFile.FieldType.object "java/lang/String")), Jvm.Cond.code ({ cls := "java/lang/StringLatin1", name := "canEncode", desc := "(C)Z" } : Jvm.MethodName) jdk_43_method_3_code (1 : Nat) (Option.some Jvm.ClassFile.FieldType.boolean), Jvm.Cond.code ({ cls := "java/lang/StringLatin1", name := "toBytes", desc := "(C)[B" } : Jvm.MethodName) jdk_43_method_46_code (1 : Nat) (Option.some (Jvm.ClassFile.FieldType.array Jvm.ClassFile.FieldType.byte)), Jvm.Cond.code ({ cls := "java/lang/String", name := "<init>", desc := "([BB)V" } : Jvm.MethodName) jdk_42_method_151_code (3 : Nat) (Option.none : Option Jvm.ClassFile.FieldType), Jvm.Cond.code ({ cls := "java/lang/Object", name := "<init>", desc := "()V" } : Jvm.MethodName) object_method_1_code (1 : Nat) (Option.none : Option Jvm.ClassFile.FieldType), Jvm.Cond.code ({ cls := "com/example/ample_queue/amplequeue/protocol/Frame", name := "<init>", desc := "(ILjava/lang/String;IIILjava/lang/String;)V" } : Jvm.MethodName) prog_41_method_1_code (7 : Nat) (Option.none : Option Jvm.ClassFile.FieldType), Jvm.Cond.code ({ cls := "java/util/LinkedHashMap", name := "<init>", desc := "()V" } : Jvm.MethodName) jdk_94_method_16_code (1 : Nat) (Option.none : Option Jvm.ClassFile.FieldType), Jvm.Cond.code ({ cls := "java/util/HashMap", name := "<init>", desc := "()V" } : Jvm.MethodName) jdk_69_method_7_code (1 : Nat) (Option.none : Option Jvm.ClassFile.FieldType), Jvm.Cond.code ({ cls := "java/util/AbstractMap", name := "<init>", desc := "()V" } : Jvm.MethodName) jdk_71_method_1_code (1 : Nat) (Option.none : Option Jvm.ClassFile.FieldType), Jvm.Cond.code ({ cls := "java/util/Objects", name := "requireNonNull", desc := "(Ljava/lang/Object;Ljava/lang/String;)Ljava/lang/Object;" } : Jvm.MethodName) jdk_31_method_11_code (2 : Nat) (Option.some (Jvm.ClassFile.FieldType.object "java/lang/Object")), Jvm.Cond.code ({ cls := "com/example/ample_queue/amplequeue/protocol/Frame", name := "isOneway", desc := "()Z" } : Jvm.MethodName) prog_41_method_13_code (1 : Nat) (Option.some Jvm.ClassFile.FieldType.boolean)]
set_option maxRecDepth 65536 in
theorem codes_eq : words1.filter isCode = codes1 := rfl
theorem w_codes : ∀ c ∈ words1.filter isCode, c.before args0 about1 = true := by
  rw [codes_eq]
  intro c hc
  simp only [codes1, List.mem_cons, List.not_mem_nil, or_false] at hc
  rcases hc with rfl | rfl | rfl | rfl | rfl | rfl | rfl | rfl | rfl | rfl | rfl | rfl
  · exact w_c0
  · exact w_c1
  · exact w_c2
  · exact w_c3
  · exact w_c4
  · exact w_c5
  · exact w_c6
  · exact w_c7
  · exact w_c8
  · exact w_c9
  · exact w_c10
  · exact w_c11
set_option maxRecDepth 65536 in
theorem w_t1 : (words1.take 24).all (fun c => isCode c || c.before args0 about1) = true := by decide +kernel
set_option maxRecDepth 65536 in
theorem w_t2 : ((words1.drop 24).take 24).all (fun c => isCode c || c.before args0 about1) = true := by decide +kernel
set_option maxRecDepth 65536 in
theorem w_t3 : (((words1.drop 24).drop 24).take 24).all (fun c => isCode c || c.before args0 about1) = true := by decide +kernel
set_option maxRecDepth 65536 in
theorem w_t4 : (((words1.drop 24).drop 24).drop 24).all (fun c => isCode c || c.before args0 about1) = true := by decide +kernel
theorem w_tables : (allAtoms (Jvm.Cond.code x code maxLocals ret :: tables_1)).before args0 about1 = true := by
  rw [allAtoms_all]
  show words1.all (fun c => c.before args0 about1) = true
  refine all_split ?_ w_codes
  rw [← List.take_append_drop 24 words1, List.all_append, w_t1, ← List.take_append_drop 24 (words1.drop 24), List.all_append, w_t2, ← List.take_append_drop 24 ((words1.drop 24).drop 24), List.all_append, w_t3, w_t4]
  rfl
set_option maxRecDepth 65536 in
theorem w_rest : rest_1_c.before args0 about1 = true := by decide +kernel
set_option maxRecDepth 65536 in
theorem w_case : (Jvm.Cond.and given_1 narrow_1).before args0 about1 = true := by decide +kernel
theorem w_applies : (headSpec (Jvm.Cond.code x code maxLocals ret :: tables_1) room_1).applies x e0.platform about1 = true :=
  (Spec.applies_iff w_frames).mpr ⟨w_running, w_runnable, w_alone, w_named, w_hears, w_ripe, w_room, w_tables⟩
theorem atStart : AtStart classFile x code maxLocals ret World_1 tables_1 room_1 Calls_1 rest_1 Pre_1 launch0 p0 e0 about1 theMethod args0 below0 :=
  ⟨lists_1, trivial, launch0.admits_env _ _ _, launch0.least_env, fairChoices_fair.cas, fairChoices_fair.clock, w_frames, w_args, w_heap, w_applies, trivial, w_rest, w_case⟩
end start1
theorem witness_1 : WitnessClaimed_1 := ⟨start1.p0, start1.e0, start1.about1, start1.theMethod, start1.args0, start1.below0, start1.atStart⟩
end Jvm.Pilot.@@N@@
