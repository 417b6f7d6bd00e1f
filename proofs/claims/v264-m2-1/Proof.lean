import JvmDerived
import JvmDerived.Pilot.@@N@@Statement
import JvmDerived.Pilot.@@N@@Code
set_option linter.unusedVariables false
set_option linter.unusedSimpArgs false
@@BLOCK:NumsL.lean.txt@@
@@BLOCK:Masks.lean.txt@@
namespace Jvm.OwnKit
open Sem ClassFile Op Lib Jvm.Stand Jvm.Free Jvm.LawKit Jvm.RoadKit
def Go (tb : Tables) (e : Env) (below : List Frame) (P : State → Outcome → Prop) (S : State) : Prop := ∃ U o, Steps tb e below S U ∧ U.status = .running ∧ Ended U below o ∧ P U o
theorem Go.s {tb : Tables} {e : Env} {below : List Frame} {P : State → Outcome → Prop} {S S' : State} (k : ∀ {t : State}, Steps tb e below S' t → Steps tb e below S t) (f : Go tb e below P S') : Go tb e below P S := by
  obtain ⟨U, o, h1, h2⟩ := f
  exact ⟨U, o, k h1, h2⟩
theorem Go.cast {tb : Tables} {e : Env} {below : List Frame} {P : State → Outcome → Prop} {T : State} {g g' : JFrame} (q : g = g') (f : Go tb e below P (T.setTop g')) : Go tb e below P (T.setTop g) := q ▸ f
/-- the contract of a body, at one heap and one list of arguments -/
def Con (l : Launch) (Z : State) (y : MethodName) (bytes : ByteArray) (maxL : Nat) (ret : Option FieldType) (ws : List Jvm.Cond) (rm : Room) (as' : Array Value) (h : Heap) (Q : Option Value → Heap → List Loc → Prop) : Prop :=
  MetFree l y (head1 (Cond.code y bytes maxL ret :: ws) rm) (fun a U => a = as' ∧ Z.Warmed39 U.vm ∧ U.heap = h) (fun _ _ _ _ _ => True) (fun _ U o U' => ∃ v L, o = .returned v ∧ Q v U'.heap L ∧ FrameEnd U o U' L rm.cells rm.slots)
theorem Con.intro {l : Launch} {Z : State} {y : MethodName} {bytes : ByteArray} {maxL : Nat} {ret : Option FieldType} {ws : List Jvm.Cond} {rm : Room} {as' : Array Value} {h : Heap} {Q : Option Value → Heap → List Loc → Prop} (hpn : plainFor y = true)
    (body : ∀ (p : Program) (e : Env) (s : State) (m : MethodId) (below : List Frame) (meth : Method) (c : Code) (s₁ : State) (P : State → Outcome → Prop), p.tables.exec = Jvm.exec → c.code = bytes → c.maxLocals = maxL → s.vm.findClass y.cls = some m.cls → meth.name = y.name → meth.sig.returnType = ret → meth.locks = false → Z.Warmed39 s.vm →
      Stand p l e rm s m as' below meth c s₁ [] 0 0 → s₁.heap = h → (∀ U v L, Q v U.heap L → FrameEnd s (.returned v) U L rm.cells rm.slots → P U (.returned v)) → Go p.tables e below P (s₁.setTop (entryFrame m as' maxL))) :
    Con l Z y bytes maxL ret ws rm as' h Q := by
  refine MetFree.of_bodySF hpn hisR ?_
  intro p e s m args below meth c s₁ Bd hml0 hP hK
  obtain ⟨rfl, hZ, hh⟩ := hP
  exact body p e s m below meth c s₁ _ Bd.exec Bd.bytes hml0 (findClass_of_methodNamed Bd.named) (name_of_methodNamed Bd.named Bd.method).1 Bd.returns (BodyLoose.notSynchronized Bd) hZ (Stand.of_body Bd) (by rw [← hh, Bd.state]; rfl) fun U v L q f => ⟨v, L, rfl, q, f⟩
theorem Con.mono {l : Launch} {Z : State} {y : MethodName} {bytes : ByteArray} {maxL : Nat} {ret : Option FieldType} {ws : List Jvm.Cond} {rm : Room} {as' : Array Value} {h : Heap} {Q Q' : Option Value → Heap → List Loc → Prop} (C : Con l Z y bytes maxL ret ws rm as' h Q) (q : ∀ v h L, Q v h L → Q' v h L) : Con l Z y bytes maxL ret ws rm as' h Q' := by
  intro p e ha hc hk s m args below hf happ hP hK
  obtain ⟨n, o, h1, h2, h3, v, L, h4, h5, h6⟩ := C p e ha hc hk s m args below hf happ hP hK
  exact ⟨n, o, h1, h2, h3, v, L, h4, q _ _ _ h5, h6⟩
def ConH (l : Launch) (Z : State) (y : MethodName) (bytes : ByteArray) (maxL : Nat) (ret : Option FieldType) (hs : List (Nat × Nat × Nat × Nat)) (ws : List Jvm.Cond) (rm : Room) (as' : Array Value) (h : Heap) (Q : Option Value → Heap → List Loc → Prop) : Prop :=
  MetFree l y (head1 (Cond.codeWith y bytes maxL ret hs :: ws) rm) (fun a U => a = as' ∧ Z.Warmed39 U.vm ∧ U.heap = h) (fun _ _ _ _ _ => True) (fun _ U o U' => ∃ v L, o = .returned v ∧ Q v U'.heap L ∧ FrameEnd U o U' L rm.cells rm.slots)
theorem ConH.intro {l : Launch} {Z : State} {y : MethodName} {bytes : ByteArray} {maxL : Nat} {ret : Option FieldType} {hs : List (Nat × Nat × Nat × Nat)} {ws : List Jvm.Cond} {rm : Room} {as' : Array Value} {h : Heap} {Q : Option Value → Heap → List Loc → Prop} (hpn : plainFor y = true)
    (body : ∀ (p : Program) (e : Env) (s : State) (m : MethodId) (below : List Frame) (meth : Method) (c : Code) (s₁ : State) (P : State → Outcome → Prop), p.tables.exec = Jvm.exec → c.code = bytes → c.maxLocals = maxL → s.vm.findClass y.cls = some m.cls → meth.name = y.name → meth.sig.returnType = ret → meth.locks = false → Z.Warmed39 s.vm →
      Stand p l e rm s m as' below meth c s₁ [] 0 0 → s₁.heap = h → (∀ U v L, Q v U.heap L → FrameEnd s (.returned v) U L rm.cells rm.slots → P U (.returned v)) → Go p.tables e below P (s₁.setTop (entryFrame m as' maxL))) :
    ConH l Z y bytes maxL ret hs ws rm as' h Q := by
  refine MetFree.of_bodySF hpn hisWith ?_
  intro p e s m args below meth c s₁ Bd hml0 hP hK
  obtain ⟨rfl, hZ, hh⟩ := hP
  exact body p e s m below meth c s₁ _ Bd.exec Bd.bytes hml0 (findClass_of_methodNamed Bd.named) (name_of_methodNamed Bd.named Bd.method).1 Bd.returns (BodyLoose.notSynchronized Bd) hZ (Stand.of_body Bd) (by rw [← hh, Bd.state]; rfl) fun U v L q f => ⟨v, L, rfl, q, f⟩
section Walk
variable {p : Program} {l : Launch} {e : Env} {R : Room} {s : State} {m : MethodId} {args : Array Value} {below : List Frame} {meth : Method} {c : Code} {T : State} {locs : List Loc} {cells slots : Nat} {P : State → Outcome → Prop} {Z : State} {a0 : Array Value} {h : Heap}
theorem Go.ret (X : Stand p l e R s m args below meth c T locs cells slots) (hx : p.tables.exec = Jvm.exec) (hlk : meth.locks = false) {pc : Nat} {Ls : Array Slot} {w : Value} {t : FieldType} {i : Instr} {rest : List Value} (hret : meth.sig.returnType = some t) (hn : narrow t w = w)
    (hi : (i = .ireturn ∧ (t = .int ∨ t = .boolean ∨ t = .byte ∨ t = .char ∨ t = .short) ∧ ∃ z, w = .int z) ∨ (i = .lreturn ∧ t = .long ∧ ∃ z, w = .long z) ∨ (i = .dreturn ∧ t = .double ∧ ∃ z, w = .double z) ∨ (i = .freturn ∧ t = .float ∧ ∃ z, w = .float z) ∨ (i = .areturn ∧ t.isReference = true ∧ w.isRef = true))
    (hd : decode c.code pc = .ok (i, 1)) (hP : ∀ U : State, U.heap = T.heap → FrameEnd s (.returned (some w)) U locs cells slots → P U (.returned (some w))) : Go p.tables e below P (T.setTop (mkF m pc Ls (w :: rest))) := by
  obtain ⟨fs, hr, hrun, hended, hW, hsame⟩ := X.leave (v := some w) (fun h => by rw [hret] at h; cases h) hlk
  exact ⟨_, _, retOut X hx hret hn hi hd hr, hrun, hended, hP _ rfl ⟨⟨_, rfl⟩, hW, hsame⟩⟩
theorem Go.retI (X : Stand p l e R s m args below meth c T locs cells slots) (hx : p.tables.exec = Jvm.exec) (hlk : meth.locks = false) {pc : Nat} {Ls : Array Slot} {z : Int32} {rest : List Value} (hret : meth.sig.returnType = some .int)
    (hd : decode c.code pc = .ok (.ireturn, 1)) (hP : ∀ U : State, U.heap = T.heap → FrameEnd s (.returned (some (.int z))) U locs cells slots → P U (.returned (some (.int z)))) : Go p.tables e below P (T.setTop (mkF m pc Ls (.int z :: rest))) :=
  Go.ret X hx hlk hret rfl (Or.inl ⟨rfl, Or.inl rfl, _, rfl⟩) hd hP
theorem Go.retZ (X : Stand p l e R s m args below meth c T locs cells slots) (hx : p.tables.exec = Jvm.exec) (hlk : meth.locks = false) {pc : Nat} {Ls : Array Slot} {z : Int32} {rest : List Value} (hret : meth.sig.returnType = some .boolean) (hz : z = 0 ∨ z = 1)
    (hd : decode c.code pc = .ok (.ireturn, 1)) (hP : ∀ U : State, U.heap = T.heap → FrameEnd s (.returned (some (.int z))) U locs cells slots → P U (.returned (some (.int z)))) : Go p.tables e below P (T.setTop (mkF m pc Ls (.int z :: rest))) :=
  Go.ret X hx hlk hret (by rcases hz with rfl | rfl <;> rfl) (Or.inl ⟨rfl, Or.inr (Or.inl rfl), _, rfl⟩) hd hP
theorem Go.retJ (X : Stand p l e R s m args below meth c T locs cells slots) (hx : p.tables.exec = Jvm.exec) (hlk : meth.locks = false) {pc : Nat} {Ls : Array Slot} {z : Int64} {rest : List Value} (hret : meth.sig.returnType = some .long)
    (hd : decode c.code pc = .ok (.lreturn, 1)) (hP : ∀ U : State, U.heap = T.heap → FrameEnd s (.returned (some (.long z))) U locs cells slots → P U (.returned (some (.long z)))) : Go p.tables e below P (T.setTop (mkF m pc Ls (.long z :: rest))) :=
  Go.ret X hx hlk hret rfl (Or.inr (Or.inl ⟨rfl, rfl, _, rfl⟩)) hd hP
theorem Go.retR (X : Stand p l e R s m args below meth c T locs cells slots) (hx : p.tables.exec = Jvm.exec) (hlk : meth.locks = false) {pc : Nat} {Ls : Array Slot} {w : Value} {t : FieldType} {rest : List Value} (hret : meth.sig.returnType = some t) (ht : t.isReference = true) (hw : w.isRef = true)
    (hd : decode c.code pc = .ok (.areturn, 1)) (hP : ∀ U : State, U.heap = T.heap → FrameEnd s (.returned (some w)) U locs cells slots → P U (.returned (some w))) : Go p.tables e below P (T.setTop (mkF m pc Ls (w :: rest))) :=
  Go.ret X hx hlk hret (by rcases ref_cases hw with rfl | ⟨z, rfl⟩ <;> cases t <;> first | rfl | (cases ht)) (Or.inr (Or.inr (Or.inr (Or.inr ⟨rfl, ht, hw⟩)))) hd hP
theorem Go.retV (X : Stand p l e R s m args below meth c T locs cells slots) (hx : p.tables.exec = Jvm.exec) (hlk : meth.locks = false) {pc : Nat} {Ls : Array Slot} (hret : meth.sig.returnType = none)
    (hd : decode c.code pc = .ok (.return_, 1)) (hP : ∀ U : State, U.heap = T.heap → FrameEnd s (.returned none) U locs cells slots → P U (.returned none)) : Go p.tables e below P (T.setTop (mkF m pc Ls [])) := by
  obtain ⟨fs, hr, hrun, hended, hW, hsame⟩ := X.leave (v := none) (fun _ => rfl) hlk
  exact ⟨_, _, X.returnOut hx hret hd hr, hrun, hended, hP _ rfl ⟨⟨_, rfl⟩, hW, hsame⟩⟩
theorem Con.static {y : MethodName} {bytes : ByteArray} {maxL : Nat} {ret : Option FieldType} {rm : Room} {as' : Array Value} {Q : Option Value → Heap → List Loc → Prop} (C : Con l Z y bytes maxL ret [] rm as' h Q)
    (X : Stand p l e R s m args below meth c T locs cells slots) (hx : p.tables.exec = Jvm.exec) (hZ : Z.Warmed39 s.vm) {own : String} {index W : Nat} (hown : s.vm.findClass own = some m.cls)
    (wl : (Cond.methodLink own index y).before a0 Z = true) (wst : (Cond.static y).before a0 Z = true) (wz : (Cond.initialized y.cls).before a0 Z = true) (wc : (Cond.code y bytes maxL ret).before a0 Z = true)
    (hy : y.cls ≠ "java/lang/invoke/MethodHandle" ∧ y.cls ≠ "java/lang/invoke/VarHandle") (hf : rm.frames + 1 ≤ R.frames) (hl : W + (maxL + 11) + rm.locals ≤ R.locals) (hce : cells + rm.cells ≤ R.cells) (hsl : slots + rm.slots ≤ R.slots) (eT : T.heap = h)
    {g : JFrame} (hg : g.method = m) (hsize : g.locals.size = c.maxLocals) {argsL rest : List Value} (has : argsL.toArray = as') (hlen : ∀ sig, parseMethodDescriptor y.desc = some sig → argsL.length = sig.parameters.length)
    (hstack : g.stack = argsL.reverse ++ rest) (hW : 2 * g.monitorRoom + (rest.map fun v => v.category).sum ≤ W) (hdg : decode c.code g.pc = .ok (.invokestatic index, 3)) :
    ∃ (v : Option Value) (T' : State) (L : List Loc), Stand p l e R s m args below meth c T' (locs ++ L) (cells + rm.cells) (slots + rm.slots) ∧ Q v T'.heap L ∧
      ∀ {t : State}, Steps p.tables e below (T'.setTop { g with pc := g.pc + 3, stack := v.toList ++ rest }) t → Steps p.tables e below (T.setTop g) t := by
  obtain ⟨v, vm₁, ⟨T', L', k', n'⟩, -, X', ⟨L, hQ, e1, e2, e3⟩, st⟩ := Jvm.LawKit.callS X hx hown (mvT hZ wl) (mvT hZ wst) (mvT hZ wz) (mvT hZ wc) hy (backOf (W := W) C hZ wc wz hf hl) hg hsize hlen hstack hW hdg (fun _ _ => ⟨has, eT, hce, hsl⟩)
  dsimp only [Pt.U, Pt.locs, Pt.cells, Pt.slots] at X' e1 e2 e3 st hQ
  subst e1 e2 e3
  exact ⟨v, T', L, X', hQ, fun {t} k => st t k⟩
theorem Con.special {y : MethodName} {bytes : ByteArray} {maxL : Nat} {rm : Room} {as' : Array Value} {Q : Option Value → Heap → List Loc → Prop} (C : Con l Z y bytes maxL none [] rm as' h Q) (hy1 : y.name = "<init>")
    (X : Stand p l e R s m args below meth c T locs cells slots) (hx : p.tables.exec = Jvm.exec) (hZ : Z.Warmed39 s.vm) {own : String} {index W : Nat} (hown : s.vm.findClass own = some m.cls)
    (wl : (Cond.methodLink own index y).before a0 Z = true) (wi : (Cond.instanceMethod y).before a0 Z = true) (wz : (Cond.initialized y.cls).before a0 Z = true) (wc : (Cond.code y bytes maxL none).before a0 Z = true)
    (hy : y.cls ≠ "java/lang/invoke/MethodHandle" ∧ y.cls ≠ "java/lang/invoke/VarHandle") (hf : rm.frames + 1 ≤ R.frames) (hl : W + (maxL + 11) + rm.locals ≤ R.locals) (hce : cells + rm.cells ≤ R.cells) (hsl : slots + rm.slots ≤ R.slots) (eT : T.heap = h)
    {g : JFrame} (hg : g.method = m) (hsize : g.locals.size = c.maxLocals) {a : Addr} {argsL rest : List Value} (has : (Value.ref a :: argsL).toArray = as') (hlen : ∀ sig, parseMethodDescriptor y.desc = some sig → argsL.length = sig.parameters.length)
    (hstack : g.stack = argsL.reverse ++ .ref a :: rest) (hW : 2 * g.monitorRoom + (rest.map fun v => v.category).sum ≤ W) (hdg : decode c.code g.pc = .ok (.invokespecial index, 3)) :
    ∃ (v : Option Value) (T' : State) (L : List Loc), Stand p l e R s m args below meth c T' (locs ++ L) (cells + rm.cells) (slots + rm.slots) ∧ Q v T'.heap L ∧
      ∀ {t : State}, Steps p.tables e below (T'.setTop { g with pc := g.pc + 3, stack := v.toList ++ rest }) t → Steps p.tables e below (T.setTop g) t := by
  obtain ⟨v, vm₁, ⟨T', L', k', n'⟩, -, X', ⟨L, hQ, e1, e2, e3⟩, st⟩ := X.specialBack hx hy1 hown (mvT hZ wl) (mvT hZ wi) (mvT hZ wc) hy (backOf (W := W) C hZ wc wz hf hl) hg hsize (Steps.refl _) hlen hstack hW hdg (fun _ _ => ⟨has, eT, hce, hsl⟩)
  dsimp only [Pt.U, Pt.locs, Pt.cells, Pt.slots] at X' e1 e2 e3 st hQ
  subst e1 e2 e3
  exact ⟨v, T', L, X', hQ, fun {t} k => st.trans k⟩
theorem ConH.special {y : MethodName} {bytes : ByteArray} {maxL : Nat} {rm : Room} {as' : Array Value} {Q : Option Value → Heap → List Loc → Prop} {hs : List (Nat × Nat × Nat × Nat)} (C : ConH l Z y bytes maxL none hs [] rm as' h Q) (hy1 : y.name = "<init>")
    (X : Stand p l e R s m args below meth c T locs cells slots) (hx : p.tables.exec = Jvm.exec) (hZ : Z.Warmed39 s.vm) {own : String} {index W : Nat} (hown : s.vm.findClass own = some m.cls)
    (wl : (Cond.methodLink own index y).before a0 Z = true) (wi : (Cond.instanceMethod y).before a0 Z = true) (wz : (Cond.initialized y.cls).before a0 Z = true) (wc : (Cond.codeWith y bytes maxL none hs).before a0 Z = true)
    (hy : y.cls ≠ "java/lang/invoke/MethodHandle" ∧ y.cls ≠ "java/lang/invoke/VarHandle") (hf : rm.frames + 1 ≤ R.frames) (hl : W + (maxL + 11) + rm.locals ≤ R.locals) (hce : cells + rm.cells ≤ R.cells) (hsl : slots + rm.slots ≤ R.slots) (eT : T.heap = h)
    {g : JFrame} (hg : g.method = m) (hsize : g.locals.size = c.maxLocals) {a : Addr} {argsL rest : List Value} (has : (Value.ref a :: argsL).toArray = as') (hlen : ∀ sig, parseMethodDescriptor y.desc = some sig → argsL.length = sig.parameters.length)
    (hstack : g.stack = argsL.reverse ++ .ref a :: rest) (hW : 2 * g.monitorRoom + (rest.map fun v => v.category).sum ≤ W) (hdg : decode c.code g.pc = .ok (.invokespecial index, 3)) :
    ∃ (v : Option Value) (T' : State) (L : List Loc), Stand p l e R s m args below meth c T' (locs ++ L) (cells + rm.cells) (slots + rm.slots) ∧ Q v T'.heap L ∧
      ∀ {t : State}, Steps p.tables e below (T'.setTop { g with pc := g.pc + 3, stack := v.toList ++ rest }) t → Steps p.tables e below (T.setTop g) t := by
  obtain ⟨v, vm₁, ⟨T', L', k', n'⟩, -, X', ⟨L, hQ, e1, e2, e3⟩, st⟩ := X.specialBackH hx hy1 hown (mvT hZ wl) (mvT hZ wi) (mvT hZ wc) hy (backOfWith (W := W) C hZ wc wz hf hl) hg hsize (Steps.refl _) hlen hstack hW hdg (fun _ _ => ⟨has, eT, hce, hsl⟩)
  dsimp only [Pt.U, Pt.locs, Pt.cells, Pt.slots] at X' e1 e2 e3 st hQ
  subst e1 e2 e3
  exact ⟨v, T', L, X', hQ, fun {t} k => st.trans k⟩
theorem Con.virtual {y : MethodName} {bytes : ByteArray} {maxL : Nat} {ret : Option FieldType} {rm : Room} {as' : Array Value} {Q : Option Value → Heap → List Loc → Prop} (K : Con l Z y bytes maxL ret [] rm as' h Q)
    (X : Stand p l e R s m args below meth c T locs cells slots) (hx : p.tables.exec = Jvm.exec) (hZ : Z.Warmed39 s.vm) {own C : String} {index W : Nat} (hown : s.vm.findClass own = some m.cls)
    (wl : (Cond.methodLink own index y).before a0 Z = true) (wd : (Cond.declares y).before a0 Z = true) (wsel : (Cond.selects C y y).before a0 Z = true) (wi : (Cond.instanceMethod y).before a0 Z = true) (wz : (Cond.initialized y.cls).before a0 Z = true) (wc : (Cond.code y bytes maxL ret).before a0 Z = true)
    (hy : y.cls ≠ "java/lang/invoke/MethodHandle" ∧ y.cls ≠ "java/lang/invoke/VarHandle") (hf : rm.frames + 1 ≤ R.frames) (hl : W + (maxL + 11) + rm.locals ≤ R.locals) (hce : cells + rm.cells ≤ R.cells) (hsl : slots + rm.slots ≤ R.slots) (eT : T.heap = h)
    {g : JFrame} (hg : g.method = m) (hsize : g.locals.size = c.maxLocals) {a : Addr} (E : Exa Z h a C) {argsL rest : List Value} (has : (Value.ref a :: argsL).toArray = as') (hlen : ∀ sig, parseMethodDescriptor y.desc = some sig → argsL.length = sig.parameters.length)
    (hstack : g.stack = argsL.reverse ++ .ref a :: rest) (hW : 2 * g.monitorRoom + (rest.map fun v => v.category).sum ≤ W) (hdg : decode c.code g.pc = .ok (.invokevirtual index, 3)) :
    ∃ (v : Option Value) (T' : State) (L : List Loc), Stand p l e R s m args below meth c T' (locs ++ L) (cells + rm.cells) (slots + rm.slots) ∧ Q v T'.heap L ∧
      ∀ {t : State}, Steps p.tables e below (T'.setTop { g with pc := g.pc + 3, stack := v.toList ++ rest }) t → Steps p.tables e below (T.setTop g) t := by
  obtain ⟨cq, kq, qa, qb, qc⟩ := isOf hZ eT E
  obtain ⟨v, vm₁, ⟨T', L', k', n'⟩, -, X', ⟨L, hQ, e1, e2, e3⟩, st⟩ := X.virtualBack hx hown (mvT hZ wl) (mvT hZ wd) (notFace_of_selects (args := #[]) (mvT hZ wsel)) (mvT hZ wsel) (mvT hZ wi) hy (backOf (W := W) K hZ wc wz hf hl) qa qc hg hsize (Steps.refl _) hlen hstack hW hdg (fun _ _ => ⟨has, eT, hce, hsl⟩)
  dsimp only [Pt.U, Pt.locs, Pt.cells, Pt.slots] at X' e1 e2 e3 st hQ
  subst e1 e2 e3
  exact ⟨v, T', L, X', hQ, fun {t} k => st.trans k⟩
theorem Con.priv {y : MethodName} {bytes : ByteArray} {maxL : Nat} {ret : Option FieldType} {rm : Room} {as' : Array Value} {Q : Option Value → Heap → List Loc → Prop} (K : Con l Z y bytes maxL ret [] rm as' h Q)
    (X : Stand p l e R s m args below meth c T locs cells slots) (hx : p.tables.exec = Jvm.exec) (hZ : Z.Warmed39 s.vm) {own C : String} {index W kk : Nat} (hown : s.vm.findClass own = some m.cls)
    (wl : (Cond.methodLink own index y).before a0 Z = true) (wn : (Cond.instantiable y.cls kk).before a0 Z = true) (wp : (Cond.privateMethod y).before a0 Z = true) (wi : (Cond.instanceMethod y).before a0 Z = true) (wz : (Cond.initialized y.cls).before a0 Z = true) (wc : (Cond.code y bytes maxL ret).before a0 Z = true)
    (hy : y.cls ≠ "java/lang/invoke/MethodHandle" ∧ y.cls ≠ "java/lang/invoke/VarHandle") (hf : rm.frames + 1 ≤ R.frames) (hl : W + (maxL + 11) + rm.locals ≤ R.locals) (hce : cells + rm.cells ≤ R.cells) (hsl : slots + rm.slots ≤ R.slots) (eT : T.heap = h)
    {g : JFrame} (hg : g.method = m) (hsize : g.locals.size = c.maxLocals) {a : Addr} (E : Exa Z h a C) {argsL rest : List Value} (has : (Value.ref a :: argsL).toArray = as') (hlen : ∀ sig, parseMethodDescriptor y.desc = some sig → argsL.length = sig.parameters.length)
    (hstack : g.stack = argsL.reverse ++ .ref a :: rest) (hW : 2 * g.monitorRoom + (rest.map fun v => v.category).sum ≤ W) (hdg : decode c.code g.pc = .ok (.invokevirtual index, 3)) :
    ∃ (v : Option Value) (T' : State) (L : List Loc), Stand p l e R s m args below meth c T' (locs ++ L) (cells + rm.cells) (slots + rm.slots) ∧ Q v T'.heap L ∧
      ∀ {t : State}, Steps p.tables e below (T'.setTop { g with pc := g.pc + 3, stack := v.toList ++ rest }) t → Steps p.tables e below (T.setTop g) t := by
  have hpa : s.PrivateAt y := Cond.privateMethod_at (mvP hZ wp (args := args))
  have win : (Cond.instanceMethod y).before args s = true := mvT hZ wi
  have wnn : (Cond.instantiable y.cls kk).before args s = true := mvT hZ wn
  obtain ⟨ci, ki, i1, i2, i3, i4, -⟩ := Cond.instantiable_spec wnn
  have hni : ki.isInterface = false := (Bool.or_eq_false_iff.mp i4).1
  obtain ⟨cl, hcl, hob⟩ := E.cell
  obtain ⟨v, vm₁, ⟨T', L', k', n'⟩, -, X', ⟨L, hQ, e1, e2, e3⟩, st⟩ := X.privateBack hx hown (mvT hZ wl) win (selects_self_of_private i1 i2 hni hpa win hy) hpa (mvT hZ wc) hy (backOf (W := W) K hZ wc wz hf hl) hg hsize (Steps.refl _) (by rw [eT]; exact hcl) hob hlen hstack hW hdg (fun _ _ => ⟨has, eT, hce, hsl⟩)
  dsimp only [Pt.U, Pt.locs, Pt.cells, Pt.slots] at X' e1 e2 e3 st hQ
  subst e1 e2 e3
  exact ⟨v, T', L, X', hQ, fun {t} k => st.trans k⟩
theorem Con.virtualUp {x z : MethodName} {bytes : ByteArray} {maxL : Nat} {ret : Option FieldType} {rm : Room} {as' : Array Value} {Q : Option Value → Heap → List Loc → Prop} (K : Con l Z z bytes maxL ret [] rm as' h Q)
    (X : Stand p l e R s m args below meth c T locs cells slots) (hx : p.tables.exec = Jvm.exec) (hZ : Z.Warmed39 s.vm) {own C owner : String} {index W : Nat} (hown : s.vm.findClass own = some m.cls)
    (wl : (Cond.methodLink own index x).before a0 Z = true) (wsm : (Cond.sameMethod x.cls owner x.name x.desc).before a0 Z = true) (wd : (Cond.declares ⟨owner, x.name, x.desc⟩).before a0 Z = true) (wsel : (Cond.selects C x z).before a0 Z = true) (wi : (Cond.instanceMethod z).before a0 Z = true) (wz : (Cond.initialized z.cls).before a0 Z = true) (wc : (Cond.code z bytes maxL ret).before a0 Z = true)
    (ho : owner ≠ "java/lang/invoke/MethodHandle" ∧ owner ≠ "java/lang/invoke/VarHandle") (hf : rm.frames + 1 ≤ R.frames) (hl : W + (maxL + 11) + rm.locals ≤ R.locals) (hce : cells + rm.cells ≤ R.cells) (hsl : slots + rm.slots ≤ R.slots) (eT : T.heap = h)
    {g : JFrame} (hg : g.method = m) (hsize : g.locals.size = c.maxLocals) {a : Addr} (E : Exa Z h a C) {argsL rest : List Value} (has : (Value.ref a :: argsL).toArray = as') (hlen : ∀ sig, parseMethodDescriptor x.desc = some sig → argsL.length = sig.parameters.length)
    (hstack : g.stack = argsL.reverse ++ .ref a :: rest) (hW : 2 * g.monitorRoom + (rest.map fun v => v.category).sum ≤ W) (hdg : decode c.code g.pc = .ok (.invokevirtual index, 3)) :
    ∃ (v : Option Value) (T' : State) (L : List Loc), Stand p l e R s m args below meth c T' (locs ++ L) (cells + rm.cells) (slots + rm.slots) ∧ Q v T'.heap L ∧
      ∀ {t : State}, Steps p.tables e below (T'.setTop { g with pc := g.pc + 3, stack := v.toList ++ rest }) t → Steps p.tables e below (T.setTop g) t := by
  obtain ⟨cq, kq, qa, qb, qc⟩ := isOf hZ eT E
  obtain ⟨v, vm₁, ⟨T', L', k', n'⟩, -, X', ⟨L, hQ, e1, e2, e3⟩, st⟩ := X.virtualBackUp hx hown (mvT hZ wl) (mvT hZ wsm) (mvT hZ wd) ho (mvT hZ wsel) (mvT hZ wi) (backOf (W := W) K hZ wc wz hf hl) qa qc hg hsize (Steps.refl _) hlen hstack hW hdg (fun _ _ => ⟨has, eT, hce, hsl⟩)
  dsimp only [Pt.U, Pt.locs, Pt.cells, Pt.slots] at X' e1 e2 e3 st hQ
  subst e1 e2 e3
  exact ⟨v, T', L, X', hQ, fun {t} k => st.trans k⟩
/-- the cell of an object is one that the model knows -/
def Kn (h : Heap) (a : Addr) : Prop := ∃ cell : Cell, h[a]? = some cell ∧ cell.vm ≠ .unknown
theorem Kn.of_new {h' : Heap} {a : Addr} (u : ∃ cell : Cell, h'[a]? = some cell ∧ cell.vm = .none ∧ cell.monitor = {}) : Kn h' a := by obtain ⟨c, h1, h2, -⟩ := u; exact ⟨c, h1, by rw [h2]; simp⟩
theorem Kn.ext {h h' : Heap} {a : Addr} (F : Kn h a) (E : Ext h h') : Kn h' a := by obtain ⟨c, h1, h2⟩ := F; exact ⟨c, E.2 _ _ h1, h2⟩
theorem Kn.keep {h h' : Heap} {a : Addr} {ws : List Addr} (F : Kn h a) (K : Keep h h' ws) : Kn h' a := by
  obtain ⟨c, h1, h2⟩ := F; obtain ⟨c', q, -, q2, -⟩ := K.2.2 a c h1; exact ⟨c', q, by rw [q2]; exact h2⟩
theorem Kn.wr {h h' : Heap} {a b : Addr} {sl : Nat} {v : Value} (F : Kn h a) (W : Wr h h' b sl v) : Kn h' a := F.keep (Keep.of_wr W)
theorem Kn.fld {h : Heap} {a : Addr} {O n d : String} {v : Value} {Z : State} (F : Fld Z h a O n d v) : Kn h a := by obtain ⟨c, _, _, _, _, h1, -, -, h4, -⟩ := F; exact ⟨c, h1, h4⟩
theorem lremM {g : JFrame} {target : State} (X : Stand p l e R s m args below meth c T locs cells slots) (hx : p.tables.exec = Jvm.exec) (hg : g.method = m) {x y : Int64} {rest : List Value} (hd : decode c.code g.pc = .ok (.lrem, 1)) (hs : g.stack = .long y :: .long x :: rest) (hy : y ≠ 0)
    (hr : Steps p.tables e below (T.setTop { g with pc := g.pc + 1, stack := .long (x % y) :: rest }) target) : Steps p.tables e below (T.setTop g) target := by
  exact XT.lrem X.here hx hg hd hs hy (by rw [lrem_mod]; exact hr)
theorem Sta.own_keep {Z : State} {h h' : Heap} {C n d : String} {v : Value} {ws : List Addr} (F : Sta Z h C n d v) (K : Keep h h' ws) (q : ∀ a ∈ ws, ∃ C', Exa Z h a C') : Sta Z h' C n d v := by
  obtain ⟨cf, i, k, f, st, cell, h1, h2, h3, h4, h5, h6, h7⟩ := F
  refine ⟨cf, i, k, f, st, cell, h1, h2, h3, h4, K.2.1 st cell h5 fun hm => ?_, h6, h7⟩
  obtain ⟨C', c2, _, g1, -, -, g4, -⟩ := q st hm
  cases h5.symm.trans g1
  rw [h6] at g4; cases g4
theorem own_nar {t : FieldType} {v : Value} (h : v.isRef = true) (ht : t.isReference = true) : narrow t v = v := by
  rcases ref_cases h with rfl | ⟨z, rfl⟩ <;> cases t <;> first | rfl | (cases ht)
theorem own_fit {t : FieldType} {v : Value} (h : v.isRef = true) (ht : t.isReference = true) : fits t v = true := by
  rcases ref_cases h with rfl | ⟨z, rfl⟩ <;> cases t <;> first | rfl | (cases ht)
theorem own_eq_int {t : Term} {k : Int32} {args : Array Value} {first s : State} {o : Option Outcome} {idx : List Nat} (h : (Cond.eq t (Term.int k)).value args first o s idx = some true) : t.eval args first o idx s = some (.int k) := by
  simp only [Cond.value, Term.eval] at h
  cases ht : t.eval args first o idx s with
  | none => simp [ht] at h
  | some x => cases x <;> simp [ht] at h ⊢; exact h
theorem pop2L {g : JFrame} {target : State} (X : Stand p l e R s m args below meth c T locs cells slots) (hx : p.tables.exec = Jvm.exec) (hg : g.method = m) {x : Int64} {rest : List Value} (hd : decode c.code g.pc = .ok (.pop2, 1)) (hs : g.stack = .long x :: rest)
    (hr : Steps p.tables e below (T.setTop { g with pc := g.pc + 1, stack := rest }) target) : Steps p.tables e below (T.setTop g) target := by
  subst hg
  jvm_step X.here [X.here.top, hx, hd, Op.pop2.wp_sem, hs, Value.category]
  exact hr
theorem own_tdiv (D k : Int) : (0 ≤ D ∧ D.tdiv k = D / k) ∨ (D < 0 ∧ D.tdiv k = -((-D) / k)) := by
  rcases Int.lt_or_le D 0 with h | h
  · refine Or.inr ⟨h, ?_⟩
    have e : D.tdiv k = -((-D).tdiv k) := by rw [Int.neg_tdiv]; omega
    rw [e, Int.tdiv_eq_ediv_of_nonneg (by omega)]
  · exact Or.inl ⟨h, Int.tdiv_eq_ediv_of_nonneg h⟩
theorem own_tmod (D k : Int) : (0 ≤ D ∧ D.tmod k = D % k) ∨ (D < 0 ∧ D.tmod k = -((-D) % k)) := by
  rcases Int.lt_or_le D 0 with h | h
  · refine Or.inr ⟨h, ?_⟩
    have e : D.tmod k = -((-D).tmod k) := by rw [Int.neg_tmod]; omega
    rw [e, Int.tmod_eq_emod_of_nonneg (by omega)]
  · exact Or.inl ⟨h, Int.tmod_eq_emod_of_nonneg h⟩
end Walk
end Jvm.OwnKit
namespace Jvm.OwnKit
open Sem ClassFile Op Lib Jvm.Stand Jvm.Free Jvm.LawKit Jvm.RoadKit
theorem own_mvL {Z s : State} {a0 args : Array Value} {own host : String} {y : MethodName} {index : Nat} (hZ : Z.Warmed39 s.vm) (w : (Cond.methodLinkNest own index y host).before a0 Z = true) : (Cond.methodLinkNest own index y host).before args s = true := (Cond.methodLinkNest_wide hZ w :)
section WalkT
variable {p : Program} {l : Launch} {e : Env} {R : Room} {s : State} {m : MethodId} {args : Array Value} {below : List Frame} {meth : Method} {c : Code} {T : State} {locs : List Loc} {cells slots : Nat} {P : State → Outcome → Prop} {Z : State} {a0 : Array Value} {h : Heap}
theorem Con.staticN {y : MethodName} {bytes : ByteArray} {maxL : Nat} {ret : Option FieldType} {rm : Room} {as' : Array Value} {Q : Option Value → Heap → List Loc → Prop} (C : Con l Z y bytes maxL ret [] rm as' h Q)
    (X : Stand p l e R s m args below meth c T locs cells slots) (hx : p.tables.exec = Jvm.exec) (hZ : Z.Warmed39 s.vm) {own host : String} {index W : Nat} (hown : s.vm.findClass own = some m.cls)
    (wl : (Cond.methodLinkNest own index y host).before a0 Z = true) (wst : (Cond.static y).before a0 Z = true) (wz : (Cond.initialized y.cls).before a0 Z = true) (wc : (Cond.code y bytes maxL ret).before a0 Z = true)
    (hy : y.cls ≠ "java/lang/invoke/MethodHandle" ∧ y.cls ≠ "java/lang/invoke/VarHandle") (hf : rm.frames + 1 ≤ R.frames) (hl : W + (maxL + 11) + rm.locals ≤ R.locals) (hce : cells + rm.cells ≤ R.cells) (hsl : slots + rm.slots ≤ R.slots) (eT : T.heap = h)
    {g : JFrame} (hg : g.method = m) (hsize : g.locals.size = c.maxLocals) {argsL rest : List Value} (has : argsL.toArray = as') (hlen : ∀ sig, parseMethodDescriptor y.desc = some sig → argsL.length = sig.parameters.length)
    (hstack : g.stack = argsL.reverse ++ rest) (hW : 2 * g.monitorRoom + (rest.map fun v => v.category).sum ≤ W) (hdg : decode c.code g.pc = .ok (.invokestatic index, 3)) :
    ∃ (v : Option Value) (T' : State) (L : List Loc), Stand p l e R s m args below meth c T' (locs ++ L) (cells + rm.cells) (slots + rm.slots) ∧ Q v T'.heap L ∧
      ∀ {t : State}, Steps p.tables e below (T'.setTop { g with pc := g.pc + 3, stack := v.toList ++ rest }) t → Steps p.tables e below (T.setTop g) t := by
  obtain ⟨v, vm₁, ⟨T', L', k', n'⟩, -, X', ⟨L, hQ, e1, e2, e3⟩, st⟩ := callSN X hx hown (own_mvL hZ wl) (mvT hZ wst) (mvT hZ wz) (mvT hZ wc) hy (backOf (W := W) C hZ wc wz hf hl) hg hsize hlen hstack hW hdg (fun _ _ => ⟨has, eT, hce, hsl⟩)
  dsimp only [Pt.U, Pt.locs, Pt.cells, Pt.slots] at X' e1 e2 e3 st hQ
  subst e1 e2 e3
  exact ⟨v, T', L, X', hQ, fun {t} k => st.trans k⟩
theorem Go.retD (X : Stand p l e R s m args below meth c T locs cells slots) (hx : p.tables.exec = Jvm.exec) (hlk : meth.locks = false) {pc : Nat} {Ls : Array Slot} {z : UInt64} {rest : List Value} (hret : meth.sig.returnType = some .double)
    (hd : decode c.code pc = .ok (.dreturn, 1)) (hP : ∀ U : State, U.heap = T.heap → FrameEnd s (.returned (some (.double z))) U locs cells slots → P U (.returned (some (.double z)))) : Go p.tables e below P (T.setTop (mkF m pc Ls (.double z :: rest))) :=
  Go.ret X hx hlk hret rfl (Or.inr (Or.inr (Or.inl ⟨rfl, rfl, _, rfl⟩))) hd hP
theorem own_mvD {Z s : State} {a0 args : Array Value} {own : String} {index : Nat} {v : UInt64} (hZ : Z.Warmed39 s.vm) (w : (Cond.constantDouble own index v).before a0 Z = true) : (Cond.constantDouble own index v).before args s = true := mvT hZ w
theorem ldc2D {g : JFrame} {target : State} (X : Stand p l e R s m args below meth c T locs cells slots) (hexec : p.tables.exec = Jvm.exec) {own : String} {index : Nat} {v : UInt64} (hown : s.vm.findClass own = some m.cls) (hconst : (Cond.constantDouble own index v).before args s = true) (hg : g.method = m) (hdg : decode c.code g.pc = .ok (.ldc2_w index, 3))
    (hr : Steps p.tables e below (T.setTop { g with pc := g.pc + 3, stack := .double v :: g.stack }) target) : Steps p.tables e below (T.setTop g) target := X.ldc2DoubleC hexec hown hconst hg hdg target hr
theorem own_dc0 : FP.dconst0 = FP.l2d 0 := by decide +kernel
end WalkT
section WholeD
open Jvm.FP Jvm.FP.Core
theorem own_pow2 {c d a b : Nat} {q r : Int} (hb : 0 < b) (h1 : c * 2 ^ q.toNat = a * b * 2 ^ (-q).toNat) (h2 : d * 2 ^ r.toNat = b * 2 ^ (-r).toNat) :
    c * 1 * 2 ^ (q - r - 0).toNat = a * d * 2 ^ (0 - (q - r)).toNat := by
  have e1 : c * 2 ^ (q.toNat + (-r).toNat) = a * d * 2 ^ ((-q).toNat + r.toNat) := by
    apply Nat.eq_of_mul_eq_mul_left hb
    rw [Nat.pow_add, Nat.pow_add]
    calc b * (c * (2 ^ q.toNat * 2 ^ (-r).toNat)) = (c * 2 ^ q.toNat) * (b * 2 ^ (-r).toNat) := by ac_rfl
      _ = (a * b * 2 ^ (-q).toNat) * (d * 2 ^ r.toNat) := by rw [h1, h2]
      _ = b * (a * d * (2 ^ (-q).toNat * 2 ^ r.toNat)) := by ac_rfl
  obtain ⟨k, k1, k2⟩ : ∃ k, q.toNat + (-r).toNat = (q - r - 0).toNat + k ∧ (-q).toNat + r.toNat = (0 - (q - r)).toNat + k :=
    ⟨q.toNat + (-r).toNat - (q - r - 0).toNat, by omega, by omega⟩
  rw [k1, k2, Nat.pow_add, Nat.pow_add, ← Nat.mul_assoc, ← Nat.mul_assoc] at e1
  rw [Nat.mul_one]
  exact Nat.eq_of_mul_eq_mul_right (Nat.two_pow_pos k) e1
theorem own_whole {x : Int} {c : Nat} {q : Int} (hx : 0 ≤ x) (h : Whole x (.fin false c q)) : c * 2 ^ q.toNat = x.toNat * 2 ^ (-q).toNat := by
  have h : ((c * 2 ^ q.toNat : Nat) : Int) = x * ((2 ^ (-q).toNat : Nat) : Int) := h
  have e : x = (x.toNat : Int) := by omega
  rw [e, ← Int.natCast_mul] at h
  exact Int.ofNat_inj.mp h
theorem own_ddiv {z a b : Int64} (h0 : 0 ≤ a.toInt) (h1 : 0 < b.toInt) (hz : z.toInt = a.toInt * b.toInt) (h2 : B53 z) (hb : B53 b) : FP.ddiv (FP.l2d z) (FP.l2d b) = FP.l2d a := by
  have n0 : 0 ≤ z.toInt := by rw [hz]; exact Int.mul_nonneg h0 (Int.le_of_lt h1)
  have wz := l2d_whole (sm h2)
  have wb := l2d_whole (sm hb)
  obtain ⟨c, q, ez⟩ := l2d_shape z
  obtain ⟨d, r, eb⟩ := l2d_shape b
  rw [show decide (z.toInt < 0) = false by simp; omega] at ez
  rw [show decide (b.toInt < 0) = false by simp; omega] at eb
  rw [ez] at wz
  rw [eb] at wb
  have fz := own_whole n0 wz
  have fb := own_whole (Int.le_of_lt h1) wb
  have dn : d ≠ 0 := by
    rintro rfl
    rw [Nat.zero_mul] at fb
    have p1 := Nat.two_pow_pos (-r).toNat
    have : 0 < b.toInt.toNat * 2 ^ (-r).toNat := Nat.mul_pos (by omega) p1
    omega
  show of64 (quotient b64 (val64 (Core.l2d z)) (val64 (Core.l2d b))) = of64 (round b64 (ofInt a.toInt))
  rw [ez, eb]
  have e1 : quotient b64 (.fin false c q) (.fin false d r) = roundRatio b64 false c d (q - r) := by
    show (if d = 0 then _ else _) = _
    rw [if_neg dn]; rfl
  have e2 : round b64 (ofInt a.toInt) = roundRatio b64 false a.toInt.natAbs 1 0 := by
    show roundRatio b64 (decide (a.toInt < 0)) a.toInt.natAbs 1 0 = _
    rw [show decide (a.toInt < 0) = false by simp; omega]
  rw [e1, e2]
  congr 1
  have hzz : z.toInt.toNat = a.toInt.toNat * b.toInt.toNat := by rw [hz]; exact Int.toNat_mul h0 (Int.le_of_lt h1)
  rw [hzz] at fz
  rw [show a.toInt.natAbs = a.toInt.toNat by omega]
  exact roundRatio_congr (by omega) (by decide) (own_pow2 (by omega) fz fb)
end WholeD
end Jvm.OwnKit
namespace Jvm.Pilot.@@N@@
open Jvm Jvm.ClassFile Sem Op Lib Jvm.Free Jvm.Stand Jvm.LawKit Jvm.RoadKit Bundle Jvm.Pilot.@@N@@.Jvm.D Jvm.OwnKit
theorem own_b0 : B53 0 := ⟨by decide, by decide⟩
def own_S (r hi lo sv kk : Int64) : Prop := (1 ≤ lo.toInt ∧ lo.toInt ≤ 65536) ∧ (lo.toInt ≤ hi.toInt ∧ hi.toInt ≤ lo.toInt + 65535) ∧ (-65536 ≤ r.toInt ∧ r.toInt ≤ 262143) ∧ (0 ≤ kk.toInt ∧ kk.toInt ≤ 1048575) ∧ (0 ≤ sv.toInt ∧ sv.toInt ≤ 68718362625) ∧ (lo.toInt < hi.toInt → sv.toInt = kk.toInt * (hi.toInt - lo.toInt))
section
variable {r hi lo sv kk : Int64}
theorem own_Sr (h : own_S r hi lo sv kk) : B53 r := by obtain ⟨a, b, c, d, e, f⟩ := h; exact ⟨by omega, by omega⟩
theorem own_Shi (h : own_S r hi lo sv kk) : B53 hi := by obtain ⟨a, b, c, d, e, f⟩ := h; exact ⟨by omega, by omega⟩
theorem own_Slo (h : own_S r hi lo sv kk) : B53 lo := by obtain ⟨a, b, c, d, e, f⟩ := h; exact ⟨by omega, by omega⟩
theorem own_Ssv (h : own_S r hi lo sv kk) : B53 sv := by obtain ⟨a, b, c, d, e, f⟩ := h; exact ⟨by omega, by omega⟩
theorem own_hr (h : own_S r hi lo sv kk) : (hi - r).toInt = hi.toInt - r.toInt := by obtain ⟨a, b, c, d, e, f⟩ := h; exact Jvm.Kit.i64_sub (by omega) (by omega)
theorem own_hl (h : own_S r hi lo sv kk) : (hi - lo).toInt = hi.toInt - lo.toInt := by obtain ⟨a, b, c, d, e, f⟩ := h; exact Jvm.Kit.i64_sub (by omega) (by omega)
theorem own_mul1 {x y A B : Int} (x0 : 0 ≤ x) (x1 : x ≤ A) (y0 : 0 ≤ y) (y1 : y ≤ B) : 0 ≤ x * y ∧ x * y ≤ A * B := ⟨Int.mul_nonneg x0 y0, Int.mul_le_mul x1 y1 y0 (Int.le_trans x0 x1)⟩
theorem own_m1 (h : own_S r hi lo sv kk) (q1 : r < hi) (q2 : lo < r) : FP.dmul (FP.l2d sv) (FP.l2d (hi - r)) = FP.l2d (sv * (hi - r)) := by
  have e1 := own_hr h
  obtain ⟨a, b, c, d, e, f⟩ := h
  rw [Int64.lt_iff_toInt_lt] at q1 q2
  have z0 : (0 : Int64).toInt = 0 := rfl
  exact dmul_k (A := 68718362625) (B := 65535) (by omega) (by omega) (by omega) (by omega) (by decide) (by decide) (by decide) (fun q => by have := Int64.lt_iff_toInt_lt.mp q.2; omega) (fun q => by have := Int64.lt_iff_toInt_lt.mp q.2; omega)
theorem own_k1 (h : own_S r hi lo sv kk) (q1 : r < hi) (q2 : lo < r) : (kk * (hi - r)).toInt = kk.toInt * (hi.toInt - r.toInt) ∧ 0 ≤ kk.toInt * (hi.toInt - r.toInt) ∧ kk.toInt * (hi.toInt - r.toInt) ≤ 68718362625 := by
  have e1 := own_hr h
  obtain ⟨a, b, c, d, e, f⟩ := h
  rw [Int64.lt_iff_toInt_lt] at q1 q2
  have m := own_mul1 (x := kk.toInt) (y := hi.toInt - r.toInt) (A := 1048575) (B := 65535) (by omega) (by omega) (by omega) (by omega)
  refine ⟨?_, by omega, by omega⟩
  rw [Jvm.Kit.i64_mul (by rw [e1]; omega) (by rw [e1]; omega), e1]
theorem own_d1 (h : own_S r hi lo sv kk) (q1 : r < hi) (q2 : lo < r) : FP.ddiv (FP.l2d (sv * (hi - r))) (FP.l2d (hi - lo)) = FP.l2d (kk * (hi - r)) := by
  have e1 := own_hr h
  have e2 := own_hl h
  obtain ⟨k1, k2, k3⟩ := own_k1 h q1 q2
  obtain ⟨a, b, c, d, e, f⟩ := h
  rw [Int64.lt_iff_toInt_lt] at q1 q2
  have m := own_mul1 (x := sv.toInt) (y := hi.toInt - r.toInt) (A := 68718362625) (B := 65535) (by omega) (by omega) (by omega) (by omega)
  have z : (sv * (hi - r)).toInt = sv.toInt * (hi.toInt - r.toInt) := by rw [Jvm.Kit.i64_mul (by rw [e1]; omega) (by rw [e1]; omega), e1]
  refine own_ddiv (by omega) (by omega) ?_ ⟨by omega, by omega⟩ ⟨by omega, by omega⟩
  rw [z, k1, e2, f (by omega), Int.mul_assoc, Int.mul_assoc, Int.mul_comm (hi.toInt - lo.toInt)]
end
-- (<init> returns nothing)
theorem own_ef2 (m : MethodId) (a : Addr) : entryFrame m #[(.ref a)] 1 = mkF m 0 #[.val (.ref a)] [] := by
  (first | (simp [entryFrame, mkF, argsToLocals, Value.category]; done) | rfl)
theorem own_pn_0 : plainName "java/lang/Record" = true := by first | (simp [plainName, overriddenIn]; done) | decide +kernel
theorem own_d2_0 : decode jdk_30_method_1_code 0 = .ok (.aload_n 0, 1) := by decide +kernel
theorem own_d2_1 : decode jdk_30_method_1_code 1 = .ok (.invokespecial 1, 3) := by decide +kernel
theorem own_d2_4 : decode jdk_30_method_1_code 4 = .ok (.return_, 1) := by decide +kernel
set_option maxRecDepth 65536 in
set_option maxHeartbeats 40000000 in
theorem own_rm2 (l : Launch) (Z : State) (a0 : Array Value) (hw : ∀ d ∈ tables_1, d.before a0 Z = true) (ws : List Jvm.Cond) (a : Addr) (h0 : Heap) (n0 : Nat) (Z0 : n0 ≤ h0.size)   :
    Con l Z (⟨"java/lang/Record", "<init>", "()V"⟩ : MethodName) jdk_30_method_1_code 1 none ws ({ frames := 1, cells := 0, slots := 0, locals := 12 } : Room) #[(.ref a)] h0 (fun v h L => v = none ∧ Fr n0 L ∧ h = h0) := by
  refine Con.intro (plainFor_of_name own_pn_0) ?_
  intro p e s m below meth c s₁ P hx hby hml hown hnm hret hlk hZ X0 e0 hP
  have N0 := Fr.nil n0
  have hown : s.vm.findClass "java/lang/Record" = some m.cls := hown
  refine Go.cast (own_ef2 m a) ?_
  show Go p.tables e below P (s₁.setTop (mkF m 0 #[.val (.ref a)] []))
  refine Go.s (fun kz => XS.aloadN X0.here hx rfl (hb hby own_d2_0) rfl rfl kz) ?_
  show Go p.tables e below P (s₁.setTop (mkF m 1 #[.val (.ref a)] [(.ref a)]))
  obtain ⟨T1, X1, e1, st1⟩ := initO X0 hx hZ hown (hw _ (List.mem_of_getElem? (i := 15) rfl)) (hw _ (List.mem_of_getElem? (i := 16) rfl)) (hw _ (List.mem_of_getElem? (i := 17) rfl)) e0 (g := (mkF m 1 #[.val (.ref a)] [(.ref a)])) rfl (by rw [hml]; rfl) rfl (hb hby own_d2_1) (by decide) (W := 0) (by show 2 * 0 + _ ≤ _; exact Nat.le_of_eq rfl) (by decide)
  refine Go.s (fun {t} => st1 t) ?_
  show Go p.tables e below P (T1.setTop (mkF m 4 #[.val (.ref a)] []))
  exact Go.retV X1 hx hlk hret (hb hby own_d2_4) (fun U hU hF => hP U _ _ (by rw [hU, e1]; exact ⟨rfl, N0, rfl⟩) ⟨hF.1, hF.2.1, hF.2.2.mono (by decide) (by decide)⟩)
def own_f4 (x : Int64) : Int32 := (1 : Int32)
theorem own_ef4 (m : MethodId) (x : UInt64) : entryFrame m #[(.double x)] 2 = mkF m 0 #[.val (.double x), .second] [] := by
  (first | (simp [entryFrame, mkF, argsToLocals, Value.category]; done) | rfl)
theorem own_pn_1 : plainName "com/example/heraldmesh/heraldmesh/plan/Tradeoffs" = true := by first | (simp [plainName, overriddenIn]; done) | decide +kernel
theorem own_d4_0 : decode prog_95_method_15_code 0 = .ok (.dload_n 0, 1) := by decide +kernel
theorem own_d4_1 : decode prog_95_method_15_code 1 = .ok (.dconst 0, 1) := by decide +kernel
theorem own_d4_2 : decode prog_95_method_15_code 2 = .ok (.dcmp .l, 1) := by decide +kernel
theorem own_d4_3 : decode prog_95_method_15_code 3 = .ok (.ifCond .le 15, 3) := by decide +kernel
theorem own_d4_6 : decode prog_95_method_15_code 6 = .ok (.dload_n 0, 1) := by decide +kernel
theorem own_d4_7 : decode prog_95_method_15_code 7 = .ok (.ldc2_w 299, 3) := by decide +kernel
theorem own_d4_10 : decode prog_95_method_15_code 10 = .ok (.dcmp .g, 1) := by decide +kernel
theorem own_d4_11 : decode prog_95_method_15_code 11 = .ok (.ifCond .ge 7, 3) := by decide +kernel
theorem own_d4_14 : decode prog_95_method_15_code 14 = .ok (.iconst 1, 1) := by decide +kernel
theorem own_d4_15 : decode prog_95_method_15_code 15 = .ok (.goto 4, 3) := by decide +kernel
theorem own_d4_19 : decode prog_95_method_15_code 19 = .ok (.ireturn, 1) := by decide +kernel
set_option maxRecDepth 65536 in
set_option maxHeartbeats 40000000 in
theorem own_rm4 (l : Launch) (Z : State) (a0 : Array Value) (hw : ∀ d ∈ tables_1, d.before a0 Z = true) (ws : List Jvm.Cond) (x : Int64) (h0 : Heap) (n0 : Nat) (Z0 : n0 ≤ h0.size)  (hB : B53 x) (hp : (0 : Int64) < x) :
    Con l Z (⟨"com/example/heraldmesh/heraldmesh/plan/Tradeoffs", "positive", "(D)Z"⟩ : MethodName) prog_95_method_15_code 2 (some .boolean) ws ({ frames := 0, cells := 0, slots := 0, locals := 0 } : Room) #[(.double (FP.l2d x))] h0 (fun v h L => v = some (.int (own_f4 x)) ∧ Fr n0 L ∧ h = h0) := by
  refine Con.intro (plainFor_of_name own_pn_1) ?_
  intro p e s m below meth c s₁ P hx hby hml hown hnm hret hlk hZ X0 e0 hP
  have N0 := Fr.nil n0
  have hown : s.vm.findClass "com/example/heraldmesh/heraldmesh/plan/Tradeoffs" = some m.cls := hown
  refine Go.cast (own_ef4 m (FP.l2d x)) ?_
  show Go p.tables e below P (s₁.setTop (mkF m 0 #[.val (.double (FP.l2d x)), .second] []))
  refine Go.s (fun kz => XS.dloadN X0.here hx rfl (hb hby own_d4_0) rfl kz) ?_
  show Go p.tables e below P (s₁.setTop (mkF m 1 #[.val (.double (FP.l2d x)), .second] [(.double (FP.l2d x))]))
  refine Go.s (fun kz => XS.dconst0 X0.here hx rfl (hb hby own_d4_1) own_dc0 kz) ?_
  show Go p.tables e below P (s₁.setTop (mkF m 2 #[.val (.double (FP.l2d x)), .second] [(.double (FP.l2d (0 : Int64))), (.double (FP.l2d x))]))
  refine Go.s (fun kz => XS.dcmpS X0.here hx rfl (hb hby own_d4_2) rfl (v := XT.cmpL x (0 : Int64)) (dcmpV_w hB own_b0 _) kz) ?_
  show Go p.tables e below P (s₁.setTop (mkF m 3 #[.val (.double (FP.l2d x)), .second] [(.int (XT.cmpL x (0 : Int64)))]))
  refine Go.s (fun kz => XS.ifNo X0.here hx rfl (hb hby own_d4_3) rfl (XT.ll_le_f hp) kz) ?_
  show Go p.tables e below P (s₁.setTop (mkF m 6 #[.val (.double (FP.l2d x)), .second] []))
  refine Go.s (fun kz => XS.dloadN X0.here hx rfl (hb hby own_d4_6) rfl kz) ?_
  show Go p.tables e below P (s₁.setTop (mkF m 7 #[.val (.double (FP.l2d x)), .second] [(.double (FP.l2d x))]))
  refine Go.s (fun kz => ldc2D X0 hx hown (own_mvD hZ (hw _ (List.mem_of_getElem? (i := 22) rfl))) rfl (hb hby own_d4_7) kz) ?_
  show Go p.tables e below P (s₁.setTop (mkF m 10 #[.val (.double (FP.l2d x)), .second] [(.double (9218868437227405312 : UInt64)), (.double (FP.l2d x))]))
  refine Go.s (fun kz => XS.dcmpS X0.here hx rfl (hb hby own_d4_10) rfl (dcmp_pinf (Jvm.Free.Fl.l2d_fin _) _) kz) ?_
  show Go p.tables e below P (s₁.setTop (mkF m 11 #[.val (.double (FP.l2d x)), .second] [(.int (-1 : Int32))]))
  refine Go.s (fun kz => XS.ifNo X0.here hx rfl (hb hby own_d4_11) rfl (XT.i0_ge_f (by decide)) kz) ?_
  show Go p.tables e below P (s₁.setTop (mkF m 14 #[.val (.double (FP.l2d x)), .second] []))
  refine Go.s (fun kz => XS.iconst X0.here hx rfl (hb hby own_d4_14) kz) ?_
  show Go p.tables e below P (s₁.setTop (mkF m 15 #[.val (.double (FP.l2d x)), .second] [(.int (1 : Int32))]))
  refine Go.s (fun kz => XS.goto X0.here hx rfl (pc0 := 15) (pc' := 19) rfl (hb hby own_d4_15) (by decide) (by decide) kz) ?_
  show Go p.tables e below P (s₁.setTop (mkF m 19 #[.val (.double (FP.l2d x)), .second] [(.int (1 : Int32))]))
  exact Go.retZ X0 hx hlk hret (by decide) (hb hby own_d4_19) (fun U hU hF => hP U _ _ (by rw [hU, e0]; exact ⟨congrArg some (congrArg Value.int (Eq.symm (by rw [own_f4]))), N0, rfl⟩) ⟨hF.1, hF.2.1, hF.2.2.mono (by decide) (by decide)⟩)
def own_f5 (x : Int64) : Int32 := (1 : Int32)
theorem own_ef5 (m : MethodId) (x : UInt64) : entryFrame m #[(.double x)] 2 = mkF m 0 #[.val (.double x), .second] [] := by
  (first | (simp [entryFrame, mkF, argsToLocals, Value.category]; done) | rfl)
theorem own_d5_0 : decode prog_95_method_16_code 0 = .ok (.dload_n 0, 1) := by decide +kernel
theorem own_d5_1 : decode prog_95_method_16_code 1 = .ok (.dconst 0, 1) := by decide +kernel
theorem own_d5_2 : decode prog_95_method_16_code 2 = .ok (.dcmp .l, 1) := by decide +kernel
theorem own_d5_3 : decode prog_95_method_16_code 3 = .ok (.ifCond .lt 15, 3) := by decide +kernel
theorem own_d5_6 : decode prog_95_method_16_code 6 = .ok (.dload_n 0, 1) := by decide +kernel
theorem own_d5_7 : decode prog_95_method_16_code 7 = .ok (.ldc2_w 299, 3) := by decide +kernel
theorem own_d5_10 : decode prog_95_method_16_code 10 = .ok (.dcmp .g, 1) := by decide +kernel
theorem own_d5_11 : decode prog_95_method_16_code 11 = .ok (.ifCond .ge 7, 3) := by decide +kernel
theorem own_d5_14 : decode prog_95_method_16_code 14 = .ok (.iconst 1, 1) := by decide +kernel
theorem own_d5_15 : decode prog_95_method_16_code 15 = .ok (.goto 4, 3) := by decide +kernel
theorem own_d5_19 : decode prog_95_method_16_code 19 = .ok (.ireturn, 1) := by decide +kernel
set_option maxRecDepth 65536 in
set_option maxHeartbeats 40000000 in
theorem own_rm5 (l : Launch) (Z : State) (a0 : Array Value) (hw : ∀ d ∈ tables_1, d.before a0 Z = true) (ws : List Jvm.Cond) (x : Int64) (h0 : Heap) (n0 : Nat) (Z0 : n0 ≤ h0.size)  (hB : B53 x) (hp : ¬ x < (0 : Int64)) :
    Con l Z (⟨"com/example/heraldmesh/heraldmesh/plan/Tradeoffs", "nonNegative", "(D)Z"⟩ : MethodName) prog_95_method_16_code 2 (some .boolean) ws ({ frames := 0, cells := 0, slots := 0, locals := 0 } : Room) #[(.double (FP.l2d x))] h0 (fun v h L => v = some (.int (own_f5 x)) ∧ Fr n0 L ∧ h = h0) := by
  refine Con.intro (plainFor_of_name own_pn_1) ?_
  intro p e s m below meth c s₁ P hx hby hml hown hnm hret hlk hZ X0 e0 hP
  have N0 := Fr.nil n0
  have hown : s.vm.findClass "com/example/heraldmesh/heraldmesh/plan/Tradeoffs" = some m.cls := hown
  refine Go.cast (own_ef5 m (FP.l2d x)) ?_
  show Go p.tables e below P (s₁.setTop (mkF m 0 #[.val (.double (FP.l2d x)), .second] []))
  refine Go.s (fun kz => XS.dloadN X0.here hx rfl (hb hby own_d5_0) rfl kz) ?_
  show Go p.tables e below P (s₁.setTop (mkF m 1 #[.val (.double (FP.l2d x)), .second] [(.double (FP.l2d x))]))
  refine Go.s (fun kz => XS.dconst0 X0.here hx rfl (hb hby own_d5_1) own_dc0 kz) ?_
  show Go p.tables e below P (s₁.setTop (mkF m 2 #[.val (.double (FP.l2d x)), .second] [(.double (FP.l2d (0 : Int64))), (.double (FP.l2d x))]))
  refine Go.s (fun kz => XS.dcmpS X0.here hx rfl (hb hby own_d5_2) rfl (v := XT.cmpL x (0 : Int64)) (dcmpV_w hB own_b0 _) kz) ?_
  show Go p.tables e below P (s₁.setTop (mkF m 3 #[.val (.double (FP.l2d x)), .second] [(.int (XT.cmpL x (0 : Int64)))]))
  refine Go.s (fun kz => XS.ifNo X0.here hx rfl (hb hby own_d5_3) rfl (XT.ll_lt_f hp) kz) ?_
  show Go p.tables e below P (s₁.setTop (mkF m 6 #[.val (.double (FP.l2d x)), .second] []))
  refine Go.s (fun kz => XS.dloadN X0.here hx rfl (hb hby own_d5_6) rfl kz) ?_
  show Go p.tables e below P (s₁.setTop (mkF m 7 #[.val (.double (FP.l2d x)), .second] [(.double (FP.l2d x))]))
  refine Go.s (fun kz => ldc2D X0 hx hown (own_mvD hZ (hw _ (List.mem_of_getElem? (i := 22) rfl))) rfl (hb hby own_d5_7) kz) ?_
  show Go p.tables e below P (s₁.setTop (mkF m 10 #[.val (.double (FP.l2d x)), .second] [(.double (9218868437227405312 : UInt64)), (.double (FP.l2d x))]))
  refine Go.s (fun kz => XS.dcmpS X0.here hx rfl (hb hby own_d5_10) rfl (dcmp_pinf (Jvm.Free.Fl.l2d_fin _) _) kz) ?_
  show Go p.tables e below P (s₁.setTop (mkF m 11 #[.val (.double (FP.l2d x)), .second] [(.int (-1 : Int32))]))
  refine Go.s (fun kz => XS.ifNo X0.here hx rfl (hb hby own_d5_11) rfl (XT.i0_ge_f (by decide)) kz) ?_
  show Go p.tables e below P (s₁.setTop (mkF m 14 #[.val (.double (FP.l2d x)), .second] []))
  refine Go.s (fun kz => XS.iconst X0.here hx rfl (hb hby own_d5_14) kz) ?_
  show Go p.tables e below P (s₁.setTop (mkF m 15 #[.val (.double (FP.l2d x)), .second] [(.int (1 : Int32))]))
  refine Go.s (fun kz => XS.goto X0.here hx rfl (pc0 := 15) (pc' := 19) rfl (hb hby own_d5_15) (by decide) (by decide) kz) ?_
  show Go p.tables e below P (s₁.setTop (mkF m 19 #[.val (.double (FP.l2d x)), .second] [(.int (1 : Int32))]))
  exact Go.retZ X0 hx hlk hret (by decide) (hb hby own_d5_19) (fun U hU hF => hP U _ _ (by rw [hU, e0]; exact ⟨congrArg some (congrArg Value.int (Eq.symm (by rw [own_f5]))), N0, rfl⟩) ⟨hF.1, hF.2.1, hF.2.2.mono (by decide) (by decide)⟩)
def own_f6 (r : Int64) (hi : Int64) (lo : Int64) (sv : Int64) (kk : Int64) : Int64 := (if r < hi then (if lo < r then (kk * (hi - r)) else sv) else (0 : Int64))
theorem own_ef6 (m : MethodId) (a : Addr) (r : UInt64) : entryFrame m #[(.ref a), (.double r)] 5 = mkF m 0 #[.val (.ref a), .val (.double r), .second, .unset, .unset] [] := by
  (first | (simp [entryFrame, mkF, argsToLocals, Value.category]; done) | rfl)
theorem own_pn_2 : plainName "com/example/heraldmesh/heraldmesh/plan/Tradeoffs$Cluster" = true := by first | (simp [plainName, overriddenIn]; done) | decide +kernel
theorem own_d6_0 : decode prog_96_method_3_code 0 = .ok (.dload_n 1, 1) := by decide +kernel
theorem own_d6_1 : decode prog_96_method_3_code 1 = .ok (.aload_n 0, 1) := by decide +kernel
theorem own_d6_2 : decode prog_96_method_3_code 2 = .ok (.getfield 65, 3) := by decide +kernel
theorem own_d6_5 : decode prog_96_method_3_code 5 = .ok (.dcmp .l, 1) := by decide +kernel
theorem own_d6_6 : decode prog_96_method_3_code 6 = .ok (.ifCond .lt 8, 3) := by decide +kernel
theorem own_d6_14 : decode prog_96_method_3_code 14 = .ok (.dload_n 1, 1) := by decide +kernel
theorem own_d6_15 : decode prog_96_method_3_code 15 = .ok (.aload_n 0, 1) := by decide +kernel
theorem own_d6_16 : decode prog_96_method_3_code 16 = .ok (.getfield 62, 3) := by decide +kernel
theorem own_d6_19 : decode prog_96_method_3_code 19 = .ok (.dcmp .g, 1) := by decide +kernel
theorem own_d6_20 : decode prog_96_method_3_code 20 = .ok (.ifCond .gt 11, 3) := by decide +kernel
theorem own_d6_31 : decode prog_96_method_3_code 31 = .ok (.aload_n 0, 1) := by decide +kernel
theorem own_d6_32 : decode prog_96_method_3_code 32 = .ok (.getfield 59, 3) := by decide +kernel
theorem own_d6_35 : decode prog_96_method_3_code 35 = .ok (.aload_n 0, 1) := by decide +kernel
theorem own_d6_36 : decode prog_96_method_3_code 36 = .ok (.getfield 65, 3) := by decide +kernel
theorem own_d6_39 : decode prog_96_method_3_code 39 = .ok (.dload_n 1, 1) := by decide +kernel
theorem own_d6_40 : decode prog_96_method_3_code 40 = .ok (.dsub, 1) := by decide +kernel
theorem own_d6_41 : decode prog_96_method_3_code 41 = .ok (.dmul, 1) := by decide +kernel
theorem own_d6_42 : decode prog_96_method_3_code 42 = .ok (.aload_n 0, 1) := by decide +kernel
theorem own_d6_43 : decode prog_96_method_3_code 43 = .ok (.getfield 65, 3) := by decide +kernel
theorem own_d6_46 : decode prog_96_method_3_code 46 = .ok (.aload_n 0, 1) := by decide +kernel
theorem own_d6_47 : decode prog_96_method_3_code 47 = .ok (.getfield 62, 3) := by decide +kernel
theorem own_d6_50 : decode prog_96_method_3_code 50 = .ok (.dsub, 1) := by decide +kernel
theorem own_d6_51 : decode prog_96_method_3_code 51 = .ok (.ddiv, 1) := by decide +kernel
theorem own_d6_52 : decode prog_96_method_3_code 52 = .ok (.dstore_n 3, 1) := by decide +kernel
theorem own_d6_53 : decode prog_96_method_3_code 53 = .ok (.dload_n 3, 1) := by decide +kernel
theorem own_d6_54 : decode prog_96_method_3_code 54 = .ok (.dreturn, 1) := by decide +kernel
theorem own_d6_23 : decode prog_96_method_3_code 23 = .ok (.aload_n 0, 1) := by decide +kernel
theorem own_d6_24 : decode prog_96_method_3_code 24 = .ok (.getfield 59, 3) := by decide +kernel
theorem own_d6_27 : decode prog_96_method_3_code 27 = .ok (.dstore_n 3, 1) := by decide +kernel
theorem own_d6_28 : decode prog_96_method_3_code 28 = .ok (.goto 25, 3) := by decide +kernel
theorem own_d6_9 : decode prog_96_method_3_code 9 = .ok (.dconst 0, 1) := by decide +kernel
theorem own_d6_10 : decode prog_96_method_3_code 10 = .ok (.dstore_n 3, 1) := by decide +kernel
theorem own_d6_11 : decode prog_96_method_3_code 11 = .ok (.goto 42, 3) := by decide +kernel
set_option maxRecDepth 65536 in
set_option maxHeartbeats 40000000 in
theorem own_rm6 (l : Launch) (Z : State) (a0 : Array Value) (hw : ∀ d ∈ tables_1, d.before a0 Z = true) (ws : List Jvm.Cond) (a : Addr) (r : Int64) (hi : Int64) (lo : Int64) (sv : Int64) (h0 : Heap) (n0 : Nat) (Z0 : n0 ≤ h0.size)  (F_high : Fld Z h0 a "com/example/heraldmesh/heraldmesh/plan/Tradeoffs$Cluster" "high" "D" (.double (FP.l2d hi))) (F_low : Fld Z h0 a "com/example/heraldmesh/heraldmesh/plan/Tradeoffs$Cluster" "low" "D" (.double (FP.l2d lo))) (F_saved : Fld Z h0 a "com/example/heraldmesh/heraldmesh/plan/Tradeoffs$Cluster" "saved" "D" (.double (FP.l2d sv))) (kk : Int64) (hs : own_S r hi lo sv kk) :
    Con l Z (⟨"com/example/heraldmesh/heraldmesh/plan/Tradeoffs$Cluster", "savedAbove", "(D)D"⟩ : MethodName) prog_96_method_3_code 5 (some .double) ws ({ frames := 0, cells := 0, slots := 0, locals := 0 } : Room) #[(.ref a), (.double (FP.l2d r))] h0 (fun v h L => v = some ((fun z => .double (FP.l2d z)) (own_f6 r hi lo sv kk)) ∧ Fr n0 L ∧ h = h0) := by
  refine Con.intro (plainFor_of_name own_pn_2) ?_
  intro p e s m below meth c s₁ P hx hby hml hown hnm hret hlk hZ X0 e0 hP
  have N0 := Fr.nil n0
  have hown : s.vm.findClass "com/example/heraldmesh/heraldmesh/plan/Tradeoffs$Cluster" = some m.cls := hown
  refine Go.cast (own_ef6 m a (FP.l2d r)) ?_
  show Go p.tables e below P (s₁.setTop (mkF m 0 #[.val (.ref a), .val (.double (FP.l2d r)), .second, .unset, .unset] []))
  refine Go.s (fun kz => XS.dloadN X0.here hx rfl (hb hby own_d6_0) rfl kz) ?_
  show Go p.tables e below P (s₁.setTop (mkF m 1 #[.val (.ref a), .val (.double (FP.l2d r)), .second, .unset, .unset] [(.double (FP.l2d r))]))
  refine Go.s (fun kz => XS.aloadN X0.here hx rfl (hb hby own_d6_1) rfl rfl kz) ?_
  show Go p.tables e below P (s₁.setTop (mkF m 2 #[.val (.ref a), .val (.double (FP.l2d r)), .second, .unset, .unset] [(.ref a), (.double (FP.l2d r))]))
  obtain ⟨T1, X1, e1, st1⟩ := getF X0 hx hZ hown (host := "") (Or.inl (hw _ (List.mem_of_getElem? (i := 35) rfl))) Via.refl e0 F_high (g := (mkF m 2 #[.val (.ref a), .val (.double (FP.l2d r)), .second, .unset, .unset] [(.ref a), (.double (FP.l2d r))])) rfl rfl (hb hby own_d6_2)
  refine Go.s (fun {t} => st1 t) ?_
  show Go p.tables e below P (T1.setTop (mkF m 5 #[.val (.ref a), .val (.double (FP.l2d r)), .second, .unset, .unset] [(.double (FP.l2d hi)), (.double (FP.l2d r))]))
  refine Go.s (fun kz => XS.dcmpS X1.here hx rfl (hb hby own_d6_5) rfl (v := XT.cmpL r hi) (dcmpV_w (own_Sr hs) (own_Shi hs) _) kz) ?_
  show Go p.tables e below P (T1.setTop (mkF m 6 #[.val (.ref a), .val (.double (FP.l2d r)), .second, .unset, .unset] [(.int (XT.cmpL r hi))]))
  by_cases hc6 : r < hi
  · skip
    refine Go.s (fun kz => XS.ifYes X1.here hx rfl (pc0 := 6) (pc' := 14) rfl (hb hby own_d6_6) rfl (XT.ll_lt_t hc6) (by decide) (by decide) kz) ?_
    show Go p.tables e below P (T1.setTop (mkF m 14 #[.val (.ref a), .val (.double (FP.l2d r)), .second, .unset, .unset] []))
    refine Go.s (fun kz => XS.dloadN X1.here hx rfl (hb hby own_d6_14) rfl kz) ?_
    show Go p.tables e below P (T1.setTop (mkF m 15 #[.val (.ref a), .val (.double (FP.l2d r)), .second, .unset, .unset] [(.double (FP.l2d r))]))
    refine Go.s (fun kz => XS.aloadN X1.here hx rfl (hb hby own_d6_15) rfl rfl kz) ?_
    show Go p.tables e below P (T1.setTop (mkF m 16 #[.val (.ref a), .val (.double (FP.l2d r)), .second, .unset, .unset] [(.ref a), (.double (FP.l2d r))]))
    obtain ⟨T2, X2, e2, st2⟩ := getF X1 hx hZ hown (host := "") (Or.inl (hw _ (List.mem_of_getElem? (i := 33) rfl))) Via.refl e1 F_low (g := (mkF m 16 #[.val (.ref a), .val (.double (FP.l2d r)), .second, .unset, .unset] [(.ref a), (.double (FP.l2d r))])) rfl rfl (hb hby own_d6_16)
    refine Go.s (fun {t} => st2 t) ?_
    show Go p.tables e below P (T2.setTop (mkF m 19 #[.val (.ref a), .val (.double (FP.l2d r)), .second, .unset, .unset] [(.double (FP.l2d lo)), (.double (FP.l2d r))]))
    refine Go.s (fun kz => XS.dcmpS X2.here hx rfl (hb hby own_d6_19) rfl (v := XT.cmpL r lo) (dcmpV_w (own_Sr hs) (own_Slo hs) _) kz) ?_
    show Go p.tables e below P (T2.setTop (mkF m 20 #[.val (.ref a), .val (.double (FP.l2d r)), .second, .unset, .unset] [(.int (XT.cmpL r lo))]))
    by_cases hc20 : lo < r
    · skip
      refine Go.s (fun kz => XS.ifYes X2.here hx rfl (pc0 := 20) (pc' := 31) rfl (hb hby own_d6_20) rfl (XT.ll_gt_t hc20) (by decide) (by decide) kz) ?_
      show Go p.tables e below P (T2.setTop (mkF m 31 #[.val (.ref a), .val (.double (FP.l2d r)), .second, .unset, .unset] []))
      refine Go.s (fun kz => XS.aloadN X2.here hx rfl (hb hby own_d6_31) rfl rfl kz) ?_
      show Go p.tables e below P (T2.setTop (mkF m 32 #[.val (.ref a), .val (.double (FP.l2d r)), .second, .unset, .unset] [(.ref a)]))
      obtain ⟨T3, X3, e3, st3⟩ := getF X2 hx hZ hown (host := "") (Or.inl (hw _ (List.mem_of_getElem? (i := 31) rfl))) Via.refl e2 F_saved (g := (mkF m 32 #[.val (.ref a), .val (.double (FP.l2d r)), .second, .unset, .unset] [(.ref a)])) rfl rfl (hb hby own_d6_32)
      refine Go.s (fun {t} => st3 t) ?_
      show Go p.tables e below P (T3.setTop (mkF m 35 #[.val (.ref a), .val (.double (FP.l2d r)), .second, .unset, .unset] [(.double (FP.l2d sv))]))
      refine Go.s (fun kz => XS.aloadN X3.here hx rfl (hb hby own_d6_35) rfl rfl kz) ?_
      show Go p.tables e below P (T3.setTop (mkF m 36 #[.val (.ref a), .val (.double (FP.l2d r)), .second, .unset, .unset] [(.ref a), (.double (FP.l2d sv))]))
      obtain ⟨T4, X4, e4, st4⟩ := getF X3 hx hZ hown (host := "") (Or.inl (hw _ (List.mem_of_getElem? (i := 35) rfl))) Via.refl e3 F_high (g := (mkF m 36 #[.val (.ref a), .val (.double (FP.l2d r)), .second, .unset, .unset] [(.ref a), (.double (FP.l2d sv))])) rfl rfl (hb hby own_d6_36)
      refine Go.s (fun {t} => st4 t) ?_
      show Go p.tables e below P (T4.setTop (mkF m 39 #[.val (.ref a), .val (.double (FP.l2d r)), .second, .unset, .unset] [(.double (FP.l2d hi)), (.double (FP.l2d sv))]))
      refine Go.s (fun kz => XS.dloadN X4.here hx rfl (hb hby own_d6_39) rfl kz) ?_
      show Go p.tables e below P (T4.setTop (mkF m 40 #[.val (.ref a), .val (.double (FP.l2d r)), .second, .unset, .unset] [(.double (FP.l2d r)), (.double (FP.l2d hi)), (.double (FP.l2d sv))]))
      refine Go.s (fun kz => XS.dsubS X4.here hx rfl (hb hby own_d6_40) rfl (nn_w (dsub_w (own_Shi hs) (own_Sr hs))) (dsub_w (own_Shi hs) (own_Sr hs)) kz) ?_
      show Go p.tables e below P (T4.setTop (mkF m 41 #[.val (.ref a), .val (.double (FP.l2d r)), .second, .unset, .unset] [(.double (FP.l2d (hi - r))), (.double (FP.l2d sv))]))
      refine Go.s (fun kz => XS.dmulS X4.here hx rfl (hb hby own_d6_41) rfl (nn_w (own_m1 hs hc6 hc20)) (own_m1 hs hc6 hc20) kz) ?_
      show Go p.tables e below P (T4.setTop (mkF m 42 #[.val (.ref a), .val (.double (FP.l2d r)), .second, .unset, .unset] [(.double (FP.l2d (sv * (hi - r))))]))
      refine Go.s (fun kz => XS.aloadN X4.here hx rfl (hb hby own_d6_42) rfl rfl kz) ?_
      show Go p.tables e below P (T4.setTop (mkF m 43 #[.val (.ref a), .val (.double (FP.l2d r)), .second, .unset, .unset] [(.ref a), (.double (FP.l2d (sv * (hi - r))))]))
      obtain ⟨T5, X5, e5, st5⟩ := getF X4 hx hZ hown (host := "") (Or.inl (hw _ (List.mem_of_getElem? (i := 35) rfl))) Via.refl e4 F_high (g := (mkF m 43 #[.val (.ref a), .val (.double (FP.l2d r)), .second, .unset, .unset] [(.ref a), (.double (FP.l2d (sv * (hi - r))))])) rfl rfl (hb hby own_d6_43)
      refine Go.s (fun {t} => st5 t) ?_
      show Go p.tables e below P (T5.setTop (mkF m 46 #[.val (.ref a), .val (.double (FP.l2d r)), .second, .unset, .unset] [(.double (FP.l2d hi)), (.double (FP.l2d (sv * (hi - r))))]))
      refine Go.s (fun kz => XS.aloadN X5.here hx rfl (hb hby own_d6_46) rfl rfl kz) ?_
      show Go p.tables e below P (T5.setTop (mkF m 47 #[.val (.ref a), .val (.double (FP.l2d r)), .second, .unset, .unset] [(.ref a), (.double (FP.l2d hi)), (.double (FP.l2d (sv * (hi - r))))]))
      obtain ⟨T6, X6, e6, st6⟩ := getF X5 hx hZ hown (host := "") (Or.inl (hw _ (List.mem_of_getElem? (i := 33) rfl))) Via.refl e5 F_low (g := (mkF m 47 #[.val (.ref a), .val (.double (FP.l2d r)), .second, .unset, .unset] [(.ref a), (.double (FP.l2d hi)), (.double (FP.l2d (sv * (hi - r))))])) rfl rfl (hb hby own_d6_47)
      refine Go.s (fun {t} => st6 t) ?_
      show Go p.tables e below P (T6.setTop (mkF m 50 #[.val (.ref a), .val (.double (FP.l2d r)), .second, .unset, .unset] [(.double (FP.l2d lo)), (.double (FP.l2d hi)), (.double (FP.l2d (sv * (hi - r))))]))
      refine Go.s (fun kz => XS.dsubS X6.here hx rfl (hb hby own_d6_50) rfl (nn_w (dsub_w (own_Shi hs) (own_Slo hs))) (dsub_w (own_Shi hs) (own_Slo hs)) kz) ?_
      show Go p.tables e below P (T6.setTop (mkF m 51 #[.val (.ref a), .val (.double (FP.l2d r)), .second, .unset, .unset] [(.double (FP.l2d (hi - lo))), (.double (FP.l2d (sv * (hi - r))))]))
      refine Go.s (fun kz => XS.ddivS X6.here hx rfl (hb hby own_d6_51) rfl (nn_w (own_d1 hs hc6 hc20)) (own_d1 hs hc6 hc20) kz) ?_
      show Go p.tables e below P (T6.setTop (mkF m 52 #[.val (.ref a), .val (.double (FP.l2d r)), .second, .unset, .unset] [(.double (FP.l2d (kk * (hi - r))))]))
      refine Go.s (fun kz => XS.dstoreN X6.here hx rfl (hb hby own_d6_52) rfl (l' := #[.val (.ref a), .val (.double (FP.l2d r)), .second, .val (.double (FP.l2d (kk * (hi - r)))), .second]) rfl kz) ?_
      show Go p.tables e below P (T6.setTop (mkF m 53 #[.val (.ref a), .val (.double (FP.l2d r)), .second, .val (.double (FP.l2d (kk * (hi - r)))), .second] []))
      refine Go.s (fun kz => XS.dloadN X6.here hx rfl (hb hby own_d6_53) rfl kz) ?_
      show Go p.tables e below P (T6.setTop (mkF m 54 #[.val (.ref a), .val (.double (FP.l2d r)), .second, .val (.double (FP.l2d (kk * (hi - r)))), .second] [(.double (FP.l2d (kk * (hi - r))))]))
      exact Go.retD X6 hx hlk hret (hb hby own_d6_54) (fun U hU hF => hP U _ _ (by rw [hU, e6]; exact ⟨congrArg some (congrArg (fun z => Value.double (FP.l2d z)) (Eq.symm (by rw [own_f6]; rw [if_pos hc6]; rw [if_pos hc20]))), N0, rfl⟩) ⟨hF.1, hF.2.1, hF.2.2.mono (by decide) (by decide)⟩)
    · skip
      refine Go.s (fun kz => XS.ifNo X2.here hx rfl (hb hby own_d6_20) rfl (XT.ll_gt_f hc20) kz) ?_
      show Go p.tables e below P (T2.setTop (mkF m 23 #[.val (.ref a), .val (.double (FP.l2d r)), .second, .unset, .unset] []))
      refine Go.s (fun kz => XS.aloadN X2.here hx rfl (hb hby own_d6_23) rfl rfl kz) ?_
      show Go p.tables e below P (T2.setTop (mkF m 24 #[.val (.ref a), .val (.double (FP.l2d r)), .second, .unset, .unset] [(.ref a)]))
      obtain ⟨T7, X7, e7, st7⟩ := getF X2 hx hZ hown (host := "") (Or.inl (hw _ (List.mem_of_getElem? (i := 31) rfl))) Via.refl e2 F_saved (g := (mkF m 24 #[.val (.ref a), .val (.double (FP.l2d r)), .second, .unset, .unset] [(.ref a)])) rfl rfl (hb hby own_d6_24)
      refine Go.s (fun {t} => st7 t) ?_
      show Go p.tables e below P (T7.setTop (mkF m 27 #[.val (.ref a), .val (.double (FP.l2d r)), .second, .unset, .unset] [(.double (FP.l2d sv))]))
      refine Go.s (fun kz => XS.dstoreN X7.here hx rfl (hb hby own_d6_27) rfl (l' := #[.val (.ref a), .val (.double (FP.l2d r)), .second, .val (.double (FP.l2d sv)), .second]) rfl kz) ?_
      show Go p.tables e below P (T7.setTop (mkF m 28 #[.val (.ref a), .val (.double (FP.l2d r)), .second, .val (.double (FP.l2d sv)), .second] []))
      refine Go.s (fun kz => XS.goto X7.here hx rfl (pc0 := 28) (pc' := 53) rfl (hb hby own_d6_28) (by decide) (by decide) kz) ?_
      show Go p.tables e below P (T7.setTop (mkF m 53 #[.val (.ref a), .val (.double (FP.l2d r)), .second, .val (.double (FP.l2d sv)), .second] []))
      refine Go.s (fun kz => XS.dloadN X7.here hx rfl (hb hby own_d6_53) rfl kz) ?_
      show Go p.tables e below P (T7.setTop (mkF m 54 #[.val (.ref a), .val (.double (FP.l2d r)), .second, .val (.double (FP.l2d sv)), .second] [(.double (FP.l2d sv))]))
      exact Go.retD X7 hx hlk hret (hb hby own_d6_54) (fun U hU hF => hP U _ _ (by rw [hU, e7]; exact ⟨congrArg some (congrArg (fun z => Value.double (FP.l2d z)) (Eq.symm (by rw [own_f6]; rw [if_pos hc6]; rw [if_neg hc20]))), N0, rfl⟩) ⟨hF.1, hF.2.1, hF.2.2.mono (by decide) (by decide)⟩)
  · skip
    refine Go.s (fun kz => XS.ifNo X1.here hx rfl (hb hby own_d6_6) rfl (XT.ll_lt_f hc6) kz) ?_
    show Go p.tables e below P (T1.setTop (mkF m 9 #[.val (.ref a), .val (.double (FP.l2d r)), .second, .unset, .unset] []))
    refine Go.s (fun kz => XS.dconst0 X1.here hx rfl (hb hby own_d6_9) own_dc0 kz) ?_
    show Go p.tables e below P (T1.setTop (mkF m 10 #[.val (.ref a), .val (.double (FP.l2d r)), .second, .unset, .unset] [(.double (FP.l2d (0 : Int64)))]))
    refine Go.s (fun kz => XS.dstoreN X1.here hx rfl (hb hby own_d6_10) rfl (l' := #[.val (.ref a), .val (.double (FP.l2d r)), .second, .val (.double (FP.l2d (0 : Int64))), .second]) rfl kz) ?_
    show Go p.tables e below P (T1.setTop (mkF m 11 #[.val (.ref a), .val (.double (FP.l2d r)), .second, .val (.double (FP.l2d (0 : Int64))), .second] []))
    refine Go.s (fun kz => XS.goto X1.here hx rfl (pc0 := 11) (pc' := 53) rfl (hb hby own_d6_11) (by decide) (by decide) kz) ?_
    show Go p.tables e below P (T1.setTop (mkF m 53 #[.val (.ref a), .val (.double (FP.l2d r)), .second, .val (.double (FP.l2d (0 : Int64))), .second] []))
    refine Go.s (fun kz => XS.dloadN X1.here hx rfl (hb hby own_d6_53) rfl kz) ?_
    show Go p.tables e below P (T1.setTop (mkF m 54 #[.val (.ref a), .val (.double (FP.l2d r)), .second, .val (.double (FP.l2d (0 : Int64))), .second] [(.double (FP.l2d (0 : Int64)))]))
    exact Go.retD X1 hx hlk hret (hb hby own_d6_54) (fun U hU hF => hP U _ _ (by rw [hU, e1]; exact ⟨congrArg some (congrArg (fun z => Value.double (FP.l2d z)) (Eq.symm (by rw [own_f6]; rw [if_neg hc6]))), N0, rfl⟩) ⟨hF.1, hF.2.1, hF.2.2.mono (by decide) (by decide)⟩)
def own_f7 (x : Int64) (y : Int64) : Int64 := (if y < x then y else x)
theorem own_ef7 (m : MethodId) (x : Int64) (y : Int64) : entryFrame m #[(.long x), (.long y)] 4 = mkF m 0 #[.val (.long x), .second, .val (.long y), .second] [] := by
  (first | (simp [entryFrame, mkF, argsToLocals, Value.category]; done) | rfl)
theorem own_d7_0 : decode jdk_29_method_70_code 0 = .ok (.lload_n 0, 1) := by decide +kernel
theorem own_d7_1 : decode jdk_29_method_70_code 1 = .ok (.lload_n 2, 1) := by decide +kernel
theorem own_d7_2 : decode jdk_29_method_70_code 2 = .ok (.lcmp, 1) := by decide +kernel
theorem own_d7_3 : decode jdk_29_method_70_code 3 = .ok (.ifCond .gt 7, 3) := by decide +kernel
theorem own_d7_10 : decode jdk_29_method_70_code 10 = .ok (.lload_n 2, 1) := by decide +kernel
theorem own_d7_11 : decode jdk_29_method_70_code 11 = .ok (.lreturn, 1) := by decide +kernel
theorem own_d7_6 : decode jdk_29_method_70_code 6 = .ok (.lload_n 0, 1) := by decide +kernel
theorem own_d7_7 : decode jdk_29_method_70_code 7 = .ok (.goto 4, 3) := by decide +kernel
set_option maxRecDepth 65536 in
set_option maxHeartbeats 40000000 in
theorem own_rm7 (l : Launch) (Z : State) (a0 : Array Value) (hw : ∀ d ∈ tables_1, d.before a0 Z = true) (ws : List Jvm.Cond) (x : Int64) (y : Int64) (h0 : Heap) (n0 : Nat) (Z0 : n0 ≤ h0.size)   :
    Con l Z (⟨"java/lang/Math", "min", "(JJ)J"⟩ : MethodName) jdk_29_method_70_code 4 (some .long) ws ({ frames := 0, cells := 0, slots := 0, locals := 0 } : Room) #[(.long x), (.long y)] h0 (fun v h L => v = some (.long (own_f7 x y)) ∧ Fr n0 L ∧ h = h0) := by
  refine Con.intro (Jvm.Free.JP.mathPlain rfl (by decide +kernel)) ?_
  intro p e s m below meth c s₁ P hx hby hml hown hnm hret hlk hZ X0 e0 hP
  have N0 := Fr.nil n0
  have hown : s.vm.findClass "java/lang/Math" = some m.cls := hown
  refine Go.cast (own_ef7 m x y) ?_
  show Go p.tables e below P (s₁.setTop (mkF m 0 #[.val (.long x), .second, .val (.long y), .second] []))
  refine Go.s (fun kz => XT.lloadN X0.here hx rfl (hb hby own_d7_0) rfl kz) ?_
  show Go p.tables e below P (s₁.setTop (mkF m 1 #[.val (.long x), .second, .val (.long y), .second] [(.long x)]))
  refine Go.s (fun kz => XT.lloadN X0.here hx rfl (hb hby own_d7_1) rfl kz) ?_
  show Go p.tables e below P (s₁.setTop (mkF m 2 #[.val (.long x), .second, .val (.long y), .second] [(.long y), (.long x)]))
  refine Go.s (fun kz => XT.lcmp X0.here hx rfl (hb hby own_d7_2) rfl kz) ?_
  show Go p.tables e below P (s₁.setTop (mkF m 3 #[.val (.long x), .second, .val (.long y), .second] [(.int (XT.cmpL x y))]))
  by_cases hc3 : y < x
  · skip
    refine Go.s (fun kz => XS.ifYes X0.here hx rfl (pc0 := 3) (pc' := 10) rfl (hb hby own_d7_3) rfl (XT.ll_gt_t hc3) (by decide) (by decide) kz) ?_
    show Go p.tables e below P (s₁.setTop (mkF m 10 #[.val (.long x), .second, .val (.long y), .second] []))
    refine Go.s (fun kz => XT.lloadN X0.here hx rfl (hb hby own_d7_10) rfl kz) ?_
    show Go p.tables e below P (s₁.setTop (mkF m 11 #[.val (.long x), .second, .val (.long y), .second] [(.long y)]))
    exact Go.retJ X0 hx hlk hret (hb hby own_d7_11) (fun U hU hF => hP U _ _ (by rw [hU, e0]; exact ⟨congrArg some (congrArg Value.long (Eq.symm (by rw [own_f7]; rw [if_pos hc3]))), N0, rfl⟩) ⟨hF.1, hF.2.1, hF.2.2.mono (by decide) (by decide)⟩)
  · skip
    refine Go.s (fun kz => XS.ifNo X0.here hx rfl (hb hby own_d7_3) rfl (XT.ll_gt_f hc3) kz) ?_
    show Go p.tables e below P (s₁.setTop (mkF m 6 #[.val (.long x), .second, .val (.long y), .second] []))
    refine Go.s (fun kz => XT.lloadN X0.here hx rfl (hb hby own_d7_6) rfl kz) ?_
    show Go p.tables e below P (s₁.setTop (mkF m 7 #[.val (.long x), .second, .val (.long y), .second] [(.long x)]))
    refine Go.s (fun kz => XS.goto X0.here hx rfl (pc0 := 7) (pc' := 11) rfl (hb hby own_d7_7) (by decide) (by decide) kz) ?_
    show Go p.tables e below P (s₁.setTop (mkF m 11 #[.val (.long x), .second, .val (.long y), .second] [(.long x)]))
    exact Go.retJ X0 hx hlk hret (hb hby own_d7_11) (fun U hU hF => hP U _ _ (by rw [hU, e0]; exact ⟨congrArg some (congrArg Value.long (Eq.symm (by rw [own_f7]; rw [if_neg hc3]))), N0, rfl⟩) ⟨hF.1, hF.2.1, hF.2.2.mono (by decide) (by decide)⟩)
def own_f8 (x : Int64) (y : Int64) : Int64 := (if x < y then y else x)
theorem own_ef8 (m : MethodId) (x : Int64) (y : Int64) : entryFrame m #[(.long x), (.long y)] 4 = mkF m 0 #[.val (.long x), .second, .val (.long y), .second] [] := by
  (first | (simp [entryFrame, mkF, argsToLocals, Value.category]; done) | rfl)
theorem own_d8_0 : decode jdk_29_method_66_code 0 = .ok (.lload_n 0, 1) := by decide +kernel
theorem own_d8_1 : decode jdk_29_method_66_code 1 = .ok (.lload_n 2, 1) := by decide +kernel
theorem own_d8_2 : decode jdk_29_method_66_code 2 = .ok (.lcmp, 1) := by decide +kernel
theorem own_d8_3 : decode jdk_29_method_66_code 3 = .ok (.ifCond .lt 7, 3) := by decide +kernel
theorem own_d8_10 : decode jdk_29_method_66_code 10 = .ok (.lload_n 2, 1) := by decide +kernel
theorem own_d8_11 : decode jdk_29_method_66_code 11 = .ok (.lreturn, 1) := by decide +kernel
theorem own_d8_6 : decode jdk_29_method_66_code 6 = .ok (.lload_n 0, 1) := by decide +kernel
theorem own_d8_7 : decode jdk_29_method_66_code 7 = .ok (.goto 4, 3) := by decide +kernel
set_option maxRecDepth 65536 in
set_option maxHeartbeats 40000000 in
theorem own_rm8 (l : Launch) (Z : State) (a0 : Array Value) (hw : ∀ d ∈ tables_1, d.before a0 Z = true) (ws : List Jvm.Cond) (x : Int64) (y : Int64) (h0 : Heap) (n0 : Nat) (Z0 : n0 ≤ h0.size)   :
    Con l Z (⟨"java/lang/Math", "max", "(JJ)J"⟩ : MethodName) jdk_29_method_66_code 4 (some .long) ws ({ frames := 0, cells := 0, slots := 0, locals := 0 } : Room) #[(.long x), (.long y)] h0 (fun v h L => v = some (.long (own_f8 x y)) ∧ Fr n0 L ∧ h = h0) := by
  refine Con.intro (Jvm.Free.JP.mathPlain rfl (by decide +kernel)) ?_
  intro p e s m below meth c s₁ P hx hby hml hown hnm hret hlk hZ X0 e0 hP
  have N0 := Fr.nil n0
  have hown : s.vm.findClass "java/lang/Math" = some m.cls := hown
  refine Go.cast (own_ef8 m x y) ?_
  show Go p.tables e below P (s₁.setTop (mkF m 0 #[.val (.long x), .second, .val (.long y), .second] []))
  refine Go.s (fun kz => XT.lloadN X0.here hx rfl (hb hby own_d8_0) rfl kz) ?_
  show Go p.tables e below P (s₁.setTop (mkF m 1 #[.val (.long x), .second, .val (.long y), .second] [(.long x)]))
  refine Go.s (fun kz => XT.lloadN X0.here hx rfl (hb hby own_d8_1) rfl kz) ?_
  show Go p.tables e below P (s₁.setTop (mkF m 2 #[.val (.long x), .second, .val (.long y), .second] [(.long y), (.long x)]))
  refine Go.s (fun kz => XT.lcmp X0.here hx rfl (hb hby own_d8_2) rfl kz) ?_
  show Go p.tables e below P (s₁.setTop (mkF m 3 #[.val (.long x), .second, .val (.long y), .second] [(.int (XT.cmpL x y))]))
  by_cases hc3 : x < y
  · skip
    refine Go.s (fun kz => XS.ifYes X0.here hx rfl (pc0 := 3) (pc' := 10) rfl (hb hby own_d8_3) rfl (XT.ll_lt_t hc3) (by decide) (by decide) kz) ?_
    show Go p.tables e below P (s₁.setTop (mkF m 10 #[.val (.long x), .second, .val (.long y), .second] []))
    refine Go.s (fun kz => XT.lloadN X0.here hx rfl (hb hby own_d8_10) rfl kz) ?_
    show Go p.tables e below P (s₁.setTop (mkF m 11 #[.val (.long x), .second, .val (.long y), .second] [(.long y)]))
    exact Go.retJ X0 hx hlk hret (hb hby own_d8_11) (fun U hU hF => hP U _ _ (by rw [hU, e0]; exact ⟨congrArg some (congrArg Value.long (Eq.symm (by rw [own_f8]; rw [if_pos hc3]))), N0, rfl⟩) ⟨hF.1, hF.2.1, hF.2.2.mono (by decide) (by decide)⟩)
  · skip
    refine Go.s (fun kz => XS.ifNo X0.here hx rfl (hb hby own_d8_3) rfl (XT.ll_lt_f hc3) kz) ?_
    show Go p.tables e below P (s₁.setTop (mkF m 6 #[.val (.long x), .second, .val (.long y), .second] []))
    refine Go.s (fun kz => XT.lloadN X0.here hx rfl (hb hby own_d8_6) rfl kz) ?_
    show Go p.tables e below P (s₁.setTop (mkF m 7 #[.val (.long x), .second, .val (.long y), .second] [(.long x)]))
    refine Go.s (fun kz => XS.goto X0.here hx rfl (pc0 := 7) (pc' := 11) rfl (hb hby own_d8_7) (by decide) (by decide) kz) ?_
    show Go p.tables e below P (s₁.setTop (mkF m 11 #[.val (.long x), .second, .val (.long y), .second] [(.long x)]))
    exact Go.retJ X0 hx hlk hret (hb hby own_d8_11) (fun U hU hF => hP U _ _ (by rw [hU, e0]; exact ⟨congrArg some (congrArg Value.long (Eq.symm (by rw [own_f8]; rw [if_neg hc3]))), N0, rfl⟩) ⟨hF.1, hF.2.1, hF.2.2.mono (by decide) (by decide)⟩)
theorem own_ef1 (m : MethodId) (a : Addr) (lv : Int32) (pl : UInt64) (sv : UInt64) (lo : UInt64) (hi : UInt64) : entryFrame m #[(.ref a), (.int lv), (.double pl), (.double sv), (.double lo), (.double hi)] 10 = mkF m 0 #[.val (.ref a), .val (.int lv), .val (.double pl), .second, .val (.double sv), .second, .val (.double lo), .second, .val (.double hi), .second] [] := by
  (first | (simp [entryFrame, mkF, argsToLocals, Value.category]; done) | rfl)
theorem own_d1_0 : decode prog_96_method_1_code 0 = .ok (.aload_n 0, 1) := by decide +kernel
theorem own_pd_0 : parseMethodDescriptor "()V" = some ⟨[], none⟩ := by decide +kernel
theorem own_d1_1 : decode prog_96_method_1_code 1 = .ok (.invokespecial 1, 3) := by decide +kernel
theorem own_d1_4 : decode prog_96_method_1_code 4 = .ok (.iload_n 1, 1) := by decide +kernel
theorem own_d1_5 : decode prog_96_method_1_code 5 = .ok (.ifCond .lt 43, 3) := by decide +kernel
theorem own_d1_8 : decode prog_96_method_1_code 8 = .ok (.dload_n 2, 1) := by decide +kernel
theorem own_pd_1 : parseMethodDescriptor "(D)Z" = some ⟨[.double], some .boolean⟩ := by decide +kernel
theorem own_d1_9 : decode prog_96_method_1_code 9 = .ok (.invokestatic 7, 3) := by decide +kernel
theorem own_d1_12 : decode prog_96_method_1_code 12 = .ok (.ifCond .eq 36, 3) := by decide +kernel
theorem own_d1_15 : decode prog_96_method_1_code 15 = .ok (.dload 4, 2) := by decide +kernel
theorem own_d1_17 : decode prog_96_method_1_code 17 = .ok (.invokestatic 13, 3) := by decide +kernel
theorem own_d1_20 : decode prog_96_method_1_code 20 = .ok (.ifCond .eq 28, 3) := by decide +kernel
theorem own_d1_23 : decode prog_96_method_1_code 23 = .ok (.dload 6, 2) := by decide +kernel
theorem own_d1_25 : decode prog_96_method_1_code 25 = .ok (.invokestatic 7, 3) := by decide +kernel
theorem own_d1_28 : decode prog_96_method_1_code 28 = .ok (.ifCond .eq 20, 3) := by decide +kernel
theorem own_d1_31 : decode prog_96_method_1_code 31 = .ok (.dload 8, 2) := by decide +kernel
theorem own_d1_33 : decode prog_96_method_1_code 33 = .ok (.dload 6, 2) := by decide +kernel
theorem own_d1_35 : decode prog_96_method_1_code 35 = .ok (.dcmp .l, 1) := by decide +kernel
theorem own_d1_36 : decode prog_96_method_1_code 36 = .ok (.ifCond .lt 12, 3) := by decide +kernel
theorem own_d1_39 : decode prog_96_method_1_code 39 = .ok (.dload 8, 2) := by decide +kernel
theorem own_d1_41 : decode prog_96_method_1_code 41 = .ok (.ldc2_w 18, 3) := by decide +kernel
theorem own_d1_44 : decode prog_96_method_1_code 44 = .ok (.dcmp .g, 1) := by decide +kernel
theorem own_d1_45 : decode prog_96_method_1_code 45 = .ok (.ifCond .lt 45, 3) := by decide +kernel
theorem own_d1_90 : decode prog_96_method_1_code 90 = .ok (.aload_n 0, 1) := by decide +kernel
theorem own_d1_91 : decode prog_96_method_1_code 91 = .ok (.iload_n 1, 1) := by decide +kernel
theorem own_d1_92 : decode prog_96_method_1_code 92 = .ok (.putfield 49, 3) := by decide +kernel
theorem own_d1_95 : decode prog_96_method_1_code 95 = .ok (.aload_n 0, 1) := by decide +kernel
theorem own_d1_96 : decode prog_96_method_1_code 96 = .ok (.dload_n 2, 1) := by decide +kernel
theorem own_d1_97 : decode prog_96_method_1_code 97 = .ok (.putfield 55, 3) := by decide +kernel
theorem own_d1_100 : decode prog_96_method_1_code 100 = .ok (.aload_n 0, 1) := by decide +kernel
theorem own_d1_101 : decode prog_96_method_1_code 101 = .ok (.dload 4, 2) := by decide +kernel
theorem own_d1_103 : decode prog_96_method_1_code 103 = .ok (.putfield 59, 3) := by decide +kernel
theorem own_d1_106 : decode prog_96_method_1_code 106 = .ok (.aload_n 0, 1) := by decide +kernel
theorem own_d1_107 : decode prog_96_method_1_code 107 = .ok (.dload 6, 2) := by decide +kernel
theorem own_d1_109 : decode prog_96_method_1_code 109 = .ok (.putfield 62, 3) := by decide +kernel
theorem own_d1_112 : decode prog_96_method_1_code 112 = .ok (.aload_n 0, 1) := by decide +kernel
theorem own_d1_113 : decode prog_96_method_1_code 113 = .ok (.dload 8, 2) := by decide +kernel
theorem own_d1_115 : decode prog_96_method_1_code 115 = .ok (.putfield 65, 3) := by decide +kernel
theorem own_d1_118 : decode prog_96_method_1_code 118 = .ok (.return_, 1) := by decide +kernel
set_option maxRecDepth 65536 in
set_option maxHeartbeats 40000000 in
theorem own_rm1 (l : Launch) (Z : State) (a0 : Array Value) (hw : ∀ d ∈ tables_1, d.before a0 Z = true) (ws : List Jvm.Cond) (a : Addr) (lv : Int32) (pl : Int64) (sv : Int64) (lo : Int64) (hi : Int64) (h0 : Heap) (n0 : Nat) (Z0 : n0 ≤ h0.size) (E0 : Exa Z h0 a "com/example/heraldmesh/heraldmesh/plan/Tradeoffs$Cluster") (U0 : Kn h0 a) (G0 : n0 ≤ a) (hp0 : ¬ lv < 0) (b1 : B53 pl) (hp1 : (0 : Int64) < pl) (b2 : B53 sv) (hp2 : ¬ sv < (0 : Int64)) (b3 : B53 lo) (hp3 : (0 : Int64) < lo) (b4 : B53 hi) (hp4 : ¬ hi < lo) :
    Con l Z (⟨"com/example/heraldmesh/heraldmesh/plan/Tradeoffs$Cluster", "<init>", "(IDDDD)V"⟩ : MethodName) prog_96_method_1_code 10 none ws ({ frames := 2, cells := 0, slots := 0, locals := 24 } : Room) #[(.ref a), (.int lv), (.double (FP.l2d pl)), (.double (FP.l2d sv)), (.double (FP.l2d lo)), (.double (FP.l2d hi))] h0 (fun v h L => v = none ∧ Fr n0 L ∧ Keep h0 h [a] ∧ Fld Z h a "com/example/heraldmesh/heraldmesh/plan/Tradeoffs$Cluster" "high" "D" (.double (FP.l2d hi)) ∧ Fld Z h a "com/example/heraldmesh/heraldmesh/plan/Tradeoffs$Cluster" "low" "D" (.double (FP.l2d lo)) ∧ Fld Z h a "com/example/heraldmesh/heraldmesh/plan/Tradeoffs$Cluster" "saved" "D" (.double (FP.l2d sv))) := by
  refine Con.intro (plainFor_of_name own_pn_2) ?_
  intro p e s m below meth c s₁ P hx hby hml hown hnm hret hlk hZ X0 e0 hP
  have N0 := Fr.nil n0
  have hown : s.vm.findClass "com/example/heraldmesh/heraldmesh/plan/Tradeoffs$Cluster" = some m.cls := hown
  refine Go.cast (own_ef1 m a lv (FP.l2d pl) (FP.l2d sv) (FP.l2d lo) (FP.l2d hi)) ?_
  show Go p.tables e below P (s₁.setTop (mkF m 0 #[.val (.ref a), .val (.int lv), .val (.double (FP.l2d pl)), .second, .val (.double (FP.l2d sv)), .second, .val (.double (FP.l2d lo)), .second, .val (.double (FP.l2d hi)), .second] []))
  refine Go.s (fun kz => XS.aloadN X0.here hx rfl (hb hby own_d1_0) rfl rfl kz) ?_
  show Go p.tables e below P (s₁.setTop (mkF m 1 #[.val (.ref a), .val (.int lv), .val (.double (FP.l2d pl)), .second, .val (.double (FP.l2d sv)), .second, .val (.double (FP.l2d lo)), .second, .val (.double (FP.l2d hi)), .second] [(.ref a)]))
  obtain ⟨v1, T1, L1, X1, Q1, st1⟩ := Con.special (own_rm2 l Z a0 hw [] a h0 n0 Z0  ) rfl X0 hx hZ (W := 0) hown (hw _ (List.mem_of_getElem? (i := 10) rfl)) (hw _ (List.mem_of_getElem? (i := 11) rfl)) (hw _ (List.mem_of_getElem? (i := 13) rfl)) (hw _ (List.mem_of_getElem? (i := 14) rfl)) (by decide) (by decide) (by decide) (by decide) (by decide) e0 (g := (mkF m 1 #[.val (.ref a), .val (.int lv), .val (.double (FP.l2d pl)), .second, .val (.double (FP.l2d sv)), .second, .val (.double (FP.l2d lo)), .second, .val (.double (FP.l2d hi)), .second] [(.ref a)])) rfl (by rw [hml]; rfl) (argsL := []) (rest := []) rfl (lenOf own_pd_0 rfl) rfl (by show 2 * 0 + _ ≤ _; exact Nat.le_of_eq rfl) (hb hby own_d1_1)
  obtain ⟨rfl, Nq1, e1⟩ := Q1
  have N1 := Fr.app N0 Nq1
  refine Go.s (fun {t} => st1) ?_
  show Go p.tables e below P (T1.setTop (mkF m 4 #[.val (.ref a), .val (.int lv), .val (.double (FP.l2d pl)), .second, .val (.double (FP.l2d sv)), .second, .val (.double (FP.l2d lo)), .second, .val (.double (FP.l2d hi)), .second] []))
  refine Go.s (fun kz => XS.iloadN X1.here hx rfl (hb hby own_d1_4) rfl kz) ?_
  show Go p.tables e below P (T1.setTop (mkF m 5 #[.val (.ref a), .val (.int lv), .val (.double (FP.l2d pl)), .second, .val (.double (FP.l2d sv)), .second, .val (.double (FP.l2d lo)), .second, .val (.double (FP.l2d hi)), .second] [(.int lv)]))
  refine Go.s (fun kz => XS.ifNo X1.here hx rfl (hb hby own_d1_5) rfl (XT.i0_lt_f hp0) kz) ?_
  show Go p.tables e below P (T1.setTop (mkF m 8 #[.val (.ref a), .val (.int lv), .val (.double (FP.l2d pl)), .second, .val (.double (FP.l2d sv)), .second, .val (.double (FP.l2d lo)), .second, .val (.double (FP.l2d hi)), .second] []))
  refine Go.s (fun kz => XS.dloadN X1.here hx rfl (hb hby own_d1_8) rfl kz) ?_
  show Go p.tables e below P (T1.setTop (mkF m 9 #[.val (.ref a), .val (.int lv), .val (.double (FP.l2d pl)), .second, .val (.double (FP.l2d sv)), .second, .val (.double (FP.l2d lo)), .second, .val (.double (FP.l2d hi)), .second] [(.double (FP.l2d pl))]))
  obtain ⟨v2, T2, L2, X2, Q2, st2⟩ := Con.staticN (own_rm4 l Z a0 hw [] pl h0 n0 Z0  b1 hp1) X1 hx hZ (W := 0) hown (hw _ (List.mem_of_getElem? (i := 18) rfl)) (hw _ (List.mem_of_getElem? (i := 19) rfl)) (hw _ (List.mem_of_getElem? (i := 20) rfl)) (hw _ (List.mem_of_getElem? (i := 21) rfl)) (by decide) (by decide) (by decide) (by decide) (by decide) e1 (g := (mkF m 9 #[.val (.ref a), .val (.int lv), .val (.double (FP.l2d pl)), .second, .val (.double (FP.l2d sv)), .second, .val (.double (FP.l2d lo)), .second, .val (.double (FP.l2d hi)), .second] [(.double (FP.l2d pl))])) rfl (by rw [hml]; rfl) (argsL := [(.double (FP.l2d pl))]) (rest := []) rfl (lenOf own_pd_1 rfl) rfl (by show 2 * 0 + _ ≤ _; exact Nat.le_of_eq rfl) (hb hby own_d1_9)
  obtain ⟨rfl, Nq2, e2⟩ := Q2
  have N2 := Fr.app N1 Nq2
  refine Go.s (fun {t} => st2) ?_
  show Go p.tables e below P (T2.setTop (mkF m 12 #[.val (.ref a), .val (.int lv), .val (.double (FP.l2d pl)), .second, .val (.double (FP.l2d sv)), .second, .val (.double (FP.l2d lo)), .second, .val (.double (FP.l2d hi)), .second] [(.int (own_f4 pl))]))
  refine Go.s (fun kz => XS.ifNo X2.here hx rfl (hb hby own_d1_12) rfl (XT.i0_eq_f (show ¬ (1 : Int32) = 0 by decide)) kz) ?_
  show Go p.tables e below P (T2.setTop (mkF m 15 #[.val (.ref a), .val (.int lv), .val (.double (FP.l2d pl)), .second, .val (.double (FP.l2d sv)), .second, .val (.double (FP.l2d lo)), .second, .val (.double (FP.l2d hi)), .second] []))
  refine Go.s (fun kz => XS.dload X2.here hx rfl (hb hby own_d1_15) rfl kz) ?_
  show Go p.tables e below P (T2.setTop (mkF m 17 #[.val (.ref a), .val (.int lv), .val (.double (FP.l2d pl)), .second, .val (.double (FP.l2d sv)), .second, .val (.double (FP.l2d lo)), .second, .val (.double (FP.l2d hi)), .second] [(.double (FP.l2d sv))]))
  obtain ⟨v3, T3, L3, X3, Q3, st3⟩ := Con.staticN (own_rm5 l Z a0 hw [] sv h0 n0 Z0  b2 hp2) X2 hx hZ (W := 0) hown (hw _ (List.mem_of_getElem? (i := 23) rfl)) (hw _ (List.mem_of_getElem? (i := 24) rfl)) (hw _ (List.mem_of_getElem? (i := 20) rfl)) (hw _ (List.mem_of_getElem? (i := 25) rfl)) (by decide) (by decide) (by decide) (by decide) (by decide) e2 (g := (mkF m 17 #[.val (.ref a), .val (.int lv), .val (.double (FP.l2d pl)), .second, .val (.double (FP.l2d sv)), .second, .val (.double (FP.l2d lo)), .second, .val (.double (FP.l2d hi)), .second] [(.double (FP.l2d sv))])) rfl (by rw [hml]; rfl) (argsL := [(.double (FP.l2d sv))]) (rest := []) rfl (lenOf own_pd_1 rfl) rfl (by show 2 * 0 + _ ≤ _; exact Nat.le_of_eq rfl) (hb hby own_d1_17)
  obtain ⟨rfl, Nq3, e3⟩ := Q3
  have N3 := Fr.app N2 Nq3
  refine Go.s (fun {t} => st3) ?_
  show Go p.tables e below P (T3.setTop (mkF m 20 #[.val (.ref a), .val (.int lv), .val (.double (FP.l2d pl)), .second, .val (.double (FP.l2d sv)), .second, .val (.double (FP.l2d lo)), .second, .val (.double (FP.l2d hi)), .second] [(.int (own_f5 sv))]))
  refine Go.s (fun kz => XS.ifNo X3.here hx rfl (hb hby own_d1_20) rfl (XT.i0_eq_f (show ¬ (1 : Int32) = 0 by decide)) kz) ?_
  show Go p.tables e below P (T3.setTop (mkF m 23 #[.val (.ref a), .val (.int lv), .val (.double (FP.l2d pl)), .second, .val (.double (FP.l2d sv)), .second, .val (.double (FP.l2d lo)), .second, .val (.double (FP.l2d hi)), .second] []))
  refine Go.s (fun kz => XS.dload X3.here hx rfl (hb hby own_d1_23) rfl kz) ?_
  show Go p.tables e below P (T3.setTop (mkF m 25 #[.val (.ref a), .val (.int lv), .val (.double (FP.l2d pl)), .second, .val (.double (FP.l2d sv)), .second, .val (.double (FP.l2d lo)), .second, .val (.double (FP.l2d hi)), .second] [(.double (FP.l2d lo))]))
  obtain ⟨v4, T4, L4, X4, Q4, st4⟩ := Con.staticN (own_rm4 l Z a0 hw [] lo h0 n0 Z0  b3 hp3) X3 hx hZ (W := 0) hown (hw _ (List.mem_of_getElem? (i := 18) rfl)) (hw _ (List.mem_of_getElem? (i := 19) rfl)) (hw _ (List.mem_of_getElem? (i := 20) rfl)) (hw _ (List.mem_of_getElem? (i := 21) rfl)) (by decide) (by decide) (by decide) (by decide) (by decide) e3 (g := (mkF m 25 #[.val (.ref a), .val (.int lv), .val (.double (FP.l2d pl)), .second, .val (.double (FP.l2d sv)), .second, .val (.double (FP.l2d lo)), .second, .val (.double (FP.l2d hi)), .second] [(.double (FP.l2d lo))])) rfl (by rw [hml]; rfl) (argsL := [(.double (FP.l2d lo))]) (rest := []) rfl (lenOf own_pd_1 rfl) rfl (by show 2 * 0 + _ ≤ _; exact Nat.le_of_eq rfl) (hb hby own_d1_25)
  obtain ⟨rfl, Nq4, e4⟩ := Q4
  have N4 := Fr.app N3 Nq4
  refine Go.s (fun {t} => st4) ?_
  show Go p.tables e below P (T4.setTop (mkF m 28 #[.val (.ref a), .val (.int lv), .val (.double (FP.l2d pl)), .second, .val (.double (FP.l2d sv)), .second, .val (.double (FP.l2d lo)), .second, .val (.double (FP.l2d hi)), .second] [(.int (own_f4 lo))]))
  refine Go.s (fun kz => XS.ifNo X4.here hx rfl (hb hby own_d1_28) rfl (XT.i0_eq_f (show ¬ (1 : Int32) = 0 by decide)) kz) ?_
  show Go p.tables e below P (T4.setTop (mkF m 31 #[.val (.ref a), .val (.int lv), .val (.double (FP.l2d pl)), .second, .val (.double (FP.l2d sv)), .second, .val (.double (FP.l2d lo)), .second, .val (.double (FP.l2d hi)), .second] []))
  refine Go.s (fun kz => XS.dload X4.here hx rfl (hb hby own_d1_31) rfl kz) ?_
  show Go p.tables e below P (T4.setTop (mkF m 33 #[.val (.ref a), .val (.int lv), .val (.double (FP.l2d pl)), .second, .val (.double (FP.l2d sv)), .second, .val (.double (FP.l2d lo)), .second, .val (.double (FP.l2d hi)), .second] [(.double (FP.l2d hi))]))
  refine Go.s (fun kz => XS.dload X4.here hx rfl (hb hby own_d1_33) rfl kz) ?_
  show Go p.tables e below P (T4.setTop (mkF m 35 #[.val (.ref a), .val (.int lv), .val (.double (FP.l2d pl)), .second, .val (.double (FP.l2d sv)), .second, .val (.double (FP.l2d lo)), .second, .val (.double (FP.l2d hi)), .second] [(.double (FP.l2d lo)), (.double (FP.l2d hi))]))
  refine Go.s (fun kz => XS.dcmpS X4.here hx rfl (hb hby own_d1_35) rfl (v := XT.cmpL hi lo) (dcmpV_w b4 b3 _) kz) ?_
  show Go p.tables e below P (T4.setTop (mkF m 36 #[.val (.ref a), .val (.int lv), .val (.double (FP.l2d pl)), .second, .val (.double (FP.l2d sv)), .second, .val (.double (FP.l2d lo)), .second, .val (.double (FP.l2d hi)), .second] [(.int (XT.cmpL hi lo))]))
  refine Go.s (fun kz => XS.ifNo X4.here hx rfl (hb hby own_d1_36) rfl (XT.ll_lt_f hp4) kz) ?_
  show Go p.tables e below P (T4.setTop (mkF m 39 #[.val (.ref a), .val (.int lv), .val (.double (FP.l2d pl)), .second, .val (.double (FP.l2d sv)), .second, .val (.double (FP.l2d lo)), .second, .val (.double (FP.l2d hi)), .second] []))
  refine Go.s (fun kz => XS.dload X4.here hx rfl (hb hby own_d1_39) rfl kz) ?_
  show Go p.tables e below P (T4.setTop (mkF m 41 #[.val (.ref a), .val (.int lv), .val (.double (FP.l2d pl)), .second, .val (.double (FP.l2d sv)), .second, .val (.double (FP.l2d lo)), .second, .val (.double (FP.l2d hi)), .second] [(.double (FP.l2d hi))]))
  refine Go.s (fun kz => ldc2D X4 hx hown (own_mvD hZ (hw _ (List.mem_of_getElem? (i := 26) rfl))) rfl (hb hby own_d1_41) kz) ?_
  show Go p.tables e below P (T4.setTop (mkF m 44 #[.val (.ref a), .val (.int lv), .val (.double (FP.l2d pl)), .second, .val (.double (FP.l2d sv)), .second, .val (.double (FP.l2d lo)), .second, .val (.double (FP.l2d hi)), .second] [(.double (9218868437227405312 : UInt64)), (.double (FP.l2d hi))]))
  refine Go.s (fun kz => XS.dcmpS X4.here hx rfl (hb hby own_d1_44) rfl (dcmp_pinf (Jvm.Free.Fl.l2d_fin _) _) kz) ?_
  show Go p.tables e below P (T4.setTop (mkF m 45 #[.val (.ref a), .val (.int lv), .val (.double (FP.l2d pl)), .second, .val (.double (FP.l2d sv)), .second, .val (.double (FP.l2d lo)), .second, .val (.double (FP.l2d hi)), .second] [(.int (-1 : Int32))]))
  refine Go.s (fun kz => XS.ifYes X4.here hx rfl (pc0 := 45) (pc' := 90) rfl (hb hby own_d1_45) rfl (XT.i0_lt_t (by decide)) (by decide) (by decide) kz) ?_
  show Go p.tables e below P (T4.setTop (mkF m 90 #[.val (.ref a), .val (.int lv), .val (.double (FP.l2d pl)), .second, .val (.double (FP.l2d sv)), .second, .val (.double (FP.l2d lo)), .second, .val (.double (FP.l2d hi)), .second] []))
  refine Go.s (fun kz => XS.aloadN X4.here hx rfl (hb hby own_d1_90) rfl rfl kz) ?_
  show Go p.tables e below P (T4.setTop (mkF m 91 #[.val (.ref a), .val (.int lv), .val (.double (FP.l2d pl)), .second, .val (.double (FP.l2d sv)), .second, .val (.double (FP.l2d lo)), .second, .val (.double (FP.l2d hi)), .second] [(.ref a)]))
  refine Go.s (fun kz => XS.iloadN X4.here hx rfl (hb hby own_d1_91) rfl kz) ?_
  show Go p.tables e below P (T4.setTop (mkF m 92 #[.val (.ref a), .val (.int lv), .val (.double (FP.l2d pl)), .second, .val (.double (FP.l2d sv)), .second, .val (.double (FP.l2d lo)), .second, .val (.double (FP.l2d hi)), .second] [(.int lv), (.ref a)]))
  obtain ⟨u5, Fo5⟩ := fld_laid E0 U0 (hw _ (List.mem_of_getElem? (i := 5) rfl)) (Or.inr (hw _ (List.mem_of_getElem? (i := 28) rfl)))
  obtain ⟨T5, H5, X5, e5, W5, st5⟩ := putF X4 hx hZ hown (host := "") (Or.inl (hw _ (List.mem_of_getElem? (i := 27) rfl))) Via.refl e4 Fo5 E0 (Or.inr ⟨(hw _ (List.mem_of_getElem? (i := 28) rfl)), rfl, hnm⟩) (hw _ (List.mem_of_getElem? (i := 5) rfl)) (ty := .int) (by decide) rfl rfl (g := (mkF m 92 #[.val (.ref a), .val (.int lv), .val (.double (FP.l2d pl)), .second, .val (.double (FP.l2d sv)), .second, .val (.double (FP.l2d lo)), .second, .val (.double (FP.l2d hi)), .second] [(.int lv), (.ref a)])) rfl rfl (hb hby own_d1_92)
  refine Go.s (fun {t} => st5 t) ?_
  have Fw5 := Fld.same W5 Fo5
  have f6 := Exa.wr W5 E0
  have f7 := Kn.wr U0 W5
  have N5 := Fr.snoc X5 N4 G0
  have Zs5 := Nat.le_trans Z0 (Keep.of_wr W5).1
  have K5 : Keep h0 H5 [a] := (Keep.refl h0 [a]).wr W5 (Or.inl (List.mem_of_getElem? (i := 0) rfl))
  show Go p.tables e below P (T5.setTop (mkF m 95 #[.val (.ref a), .val (.int lv), .val (.double (FP.l2d pl)), .second, .val (.double (FP.l2d sv)), .second, .val (.double (FP.l2d lo)), .second, .val (.double (FP.l2d hi)), .second] []))
  refine Go.s (fun kz => XS.aloadN X5.here hx rfl (hb hby own_d1_95) rfl rfl kz) ?_
  show Go p.tables e below P (T5.setTop (mkF m 96 #[.val (.ref a), .val (.int lv), .val (.double (FP.l2d pl)), .second, .val (.double (FP.l2d sv)), .second, .val (.double (FP.l2d lo)), .second, .val (.double (FP.l2d hi)), .second] [(.ref a)]))
  refine Go.s (fun kz => XS.dloadN X5.here hx rfl (hb hby own_d1_96) rfl kz) ?_
  show Go p.tables e below P (T5.setTop (mkF m 97 #[.val (.ref a), .val (.int lv), .val (.double (FP.l2d pl)), .second, .val (.double (FP.l2d sv)), .second, .val (.double (FP.l2d lo)), .second, .val (.double (FP.l2d hi)), .second] [(.double (FP.l2d pl)), (.ref a)]))
  obtain ⟨u8, Fo8⟩ := fld_laid f6 f7 (hw _ (List.mem_of_getElem? (i := 5) rfl)) (Or.inr (hw _ (List.mem_of_getElem? (i := 30) rfl)))
  obtain ⟨T8, H8, X8, e8, W8, st8⟩ := putF X5 hx hZ hown (host := "") (Or.inl (hw _ (List.mem_of_getElem? (i := 29) rfl))) Via.refl e5 Fo8 f6 (Or.inr ⟨(hw _ (List.mem_of_getElem? (i := 30) rfl)), rfl, hnm⟩) (hw _ (List.mem_of_getElem? (i := 5) rfl)) (ty := .double) (by decide) rfl rfl (g := (mkF m 97 #[.val (.ref a), .val (.int lv), .val (.double (FP.l2d pl)), .second, .val (.double (FP.l2d sv)), .second, .val (.double (FP.l2d lo)), .second, .val (.double (FP.l2d hi)), .second] [(.double (FP.l2d pl)), (.ref a)])) rfl rfl (hb hby own_d1_97)
  refine Go.s (fun {t} => st8 t) ?_
  have Fw8 := Fld.same W8 Fo8
  have f9 := Exa.wr W8 f6
  have f10 := Kn.wr f7 W8
  have f11 := Fld.other W8 Fw5 (Or.inr (slot_ne (Or.inr (hw _ (List.mem_of_getElem? (i := 28) rfl))) (Or.inr (hw _ (List.mem_of_getElem? (i := 30) rfl))) (by decide) (t := .int) (t' := .double) (by decide) (by decide)))
  have N8 := Fr.snoc X8 N5 G0
  have Zs8 := Nat.le_trans Zs5 (Keep.of_wr W8).1
  have K8 : Keep h0 H8 [a] := K5.wr W8 (Or.inl (List.mem_of_getElem? (i := 0) rfl))
  show Go p.tables e below P (T8.setTop (mkF m 100 #[.val (.ref a), .val (.int lv), .val (.double (FP.l2d pl)), .second, .val (.double (FP.l2d sv)), .second, .val (.double (FP.l2d lo)), .second, .val (.double (FP.l2d hi)), .second] []))
  refine Go.s (fun kz => XS.aloadN X8.here hx rfl (hb hby own_d1_100) rfl rfl kz) ?_
  show Go p.tables e below P (T8.setTop (mkF m 101 #[.val (.ref a), .val (.int lv), .val (.double (FP.l2d pl)), .second, .val (.double (FP.l2d sv)), .second, .val (.double (FP.l2d lo)), .second, .val (.double (FP.l2d hi)), .second] [(.ref a)]))
  refine Go.s (fun kz => XS.dload X8.here hx rfl (hb hby own_d1_101) rfl kz) ?_
  show Go p.tables e below P (T8.setTop (mkF m 103 #[.val (.ref a), .val (.int lv), .val (.double (FP.l2d pl)), .second, .val (.double (FP.l2d sv)), .second, .val (.double (FP.l2d lo)), .second, .val (.double (FP.l2d hi)), .second] [(.double (FP.l2d sv)), (.ref a)]))
  obtain ⟨u12, Fo12⟩ := fld_laid f9 f10 (hw _ (List.mem_of_getElem? (i := 5) rfl)) (Or.inr (hw _ (List.mem_of_getElem? (i := 32) rfl)))
  obtain ⟨T12, H12, X12, e12, W12, st12⟩ := putF X8 hx hZ hown (host := "") (Or.inl (hw _ (List.mem_of_getElem? (i := 31) rfl))) Via.refl e8 Fo12 f9 (Or.inr ⟨(hw _ (List.mem_of_getElem? (i := 32) rfl)), rfl, hnm⟩) (hw _ (List.mem_of_getElem? (i := 5) rfl)) (ty := .double) (by decide) rfl rfl (g := (mkF m 103 #[.val (.ref a), .val (.int lv), .val (.double (FP.l2d pl)), .second, .val (.double (FP.l2d sv)), .second, .val (.double (FP.l2d lo)), .second, .val (.double (FP.l2d hi)), .second] [(.double (FP.l2d sv)), (.ref a)])) rfl rfl (hb hby own_d1_103)
  refine Go.s (fun {t} => st12 t) ?_
  have Fw12 := Fld.same W12 Fo12
  have f13 := Exa.wr W12 f9
  have f14 := Kn.wr f10 W12
  have f15 := Fld.other W12 f11 (Or.inr (slot_ne (Or.inr (hw _ (List.mem_of_getElem? (i := 28) rfl))) (Or.inr (hw _ (List.mem_of_getElem? (i := 32) rfl))) (by decide) (t := .int) (t' := .double) (by decide) (by decide)))
  have f16 := Fld.other W12 Fw8 (Or.inr (slot_ne (Or.inr (hw _ (List.mem_of_getElem? (i := 30) rfl))) (Or.inr (hw _ (List.mem_of_getElem? (i := 32) rfl))) (by decide) (t := .double) (t' := .double) (by decide) (by decide)))
  have N12 := Fr.snoc X12 N8 G0
  have Zs12 := Nat.le_trans Zs8 (Keep.of_wr W12).1
  have K12 : Keep h0 H12 [a] := K8.wr W12 (Or.inl (List.mem_of_getElem? (i := 0) rfl))
  show Go p.tables e below P (T12.setTop (mkF m 106 #[.val (.ref a), .val (.int lv), .val (.double (FP.l2d pl)), .second, .val (.double (FP.l2d sv)), .second, .val (.double (FP.l2d lo)), .second, .val (.double (FP.l2d hi)), .second] []))
  refine Go.s (fun kz => XS.aloadN X12.here hx rfl (hb hby own_d1_106) rfl rfl kz) ?_
  show Go p.tables e below P (T12.setTop (mkF m 107 #[.val (.ref a), .val (.int lv), .val (.double (FP.l2d pl)), .second, .val (.double (FP.l2d sv)), .second, .val (.double (FP.l2d lo)), .second, .val (.double (FP.l2d hi)), .second] [(.ref a)]))
  refine Go.s (fun kz => XS.dload X12.here hx rfl (hb hby own_d1_107) rfl kz) ?_
  show Go p.tables e below P (T12.setTop (mkF m 109 #[.val (.ref a), .val (.int lv), .val (.double (FP.l2d pl)), .second, .val (.double (FP.l2d sv)), .second, .val (.double (FP.l2d lo)), .second, .val (.double (FP.l2d hi)), .second] [(.double (FP.l2d lo)), (.ref a)]))
  obtain ⟨u17, Fo17⟩ := fld_laid f13 f14 (hw _ (List.mem_of_getElem? (i := 5) rfl)) (Or.inr (hw _ (List.mem_of_getElem? (i := 34) rfl)))
  obtain ⟨T17, H17, X17, e17, W17, st17⟩ := putF X12 hx hZ hown (host := "") (Or.inl (hw _ (List.mem_of_getElem? (i := 33) rfl))) Via.refl e12 Fo17 f13 (Or.inr ⟨(hw _ (List.mem_of_getElem? (i := 34) rfl)), rfl, hnm⟩) (hw _ (List.mem_of_getElem? (i := 5) rfl)) (ty := .double) (by decide) rfl rfl (g := (mkF m 109 #[.val (.ref a), .val (.int lv), .val (.double (FP.l2d pl)), .second, .val (.double (FP.l2d sv)), .second, .val (.double (FP.l2d lo)), .second, .val (.double (FP.l2d hi)), .second] [(.double (FP.l2d lo)), (.ref a)])) rfl rfl (hb hby own_d1_109)
  refine Go.s (fun {t} => st17 t) ?_
  have Fw17 := Fld.same W17 Fo17
  have f18 := Exa.wr W17 f13
  have f19 := Kn.wr f14 W17
  have f20 := Fld.other W17 f15 (Or.inr (slot_ne (Or.inr (hw _ (List.mem_of_getElem? (i := 28) rfl))) (Or.inr (hw _ (List.mem_of_getElem? (i := 34) rfl))) (by decide) (t := .int) (t' := .double) (by decide) (by decide)))
  have f21 := Fld.other W17 f16 (Or.inr (slot_ne (Or.inr (hw _ (List.mem_of_getElem? (i := 30) rfl))) (Or.inr (hw _ (List.mem_of_getElem? (i := 34) rfl))) (by decide) (t := .double) (t' := .double) (by decide) (by decide)))
  have f22 := Fld.other W17 Fw12 (Or.inr (slot_ne (Or.inr (hw _ (List.mem_of_getElem? (i := 32) rfl))) (Or.inr (hw _ (List.mem_of_getElem? (i := 34) rfl))) (by decide) (t := .double) (t' := .double) (by decide) (by decide)))
  have N17 := Fr.snoc X17 N12 G0
  have Zs17 := Nat.le_trans Zs12 (Keep.of_wr W17).1
  have K17 : Keep h0 H17 [a] := K12.wr W17 (Or.inl (List.mem_of_getElem? (i := 0) rfl))
  show Go p.tables e below P (T17.setTop (mkF m 112 #[.val (.ref a), .val (.int lv), .val (.double (FP.l2d pl)), .second, .val (.double (FP.l2d sv)), .second, .val (.double (FP.l2d lo)), .second, .val (.double (FP.l2d hi)), .second] []))
  refine Go.s (fun kz => XS.aloadN X17.here hx rfl (hb hby own_d1_112) rfl rfl kz) ?_
  show Go p.tables e below P (T17.setTop (mkF m 113 #[.val (.ref a), .val (.int lv), .val (.double (FP.l2d pl)), .second, .val (.double (FP.l2d sv)), .second, .val (.double (FP.l2d lo)), .second, .val (.double (FP.l2d hi)), .second] [(.ref a)]))
  refine Go.s (fun kz => XS.dload X17.here hx rfl (hb hby own_d1_113) rfl kz) ?_
  show Go p.tables e below P (T17.setTop (mkF m 115 #[.val (.ref a), .val (.int lv), .val (.double (FP.l2d pl)), .second, .val (.double (FP.l2d sv)), .second, .val (.double (FP.l2d lo)), .second, .val (.double (FP.l2d hi)), .second] [(.double (FP.l2d hi)), (.ref a)]))
  obtain ⟨u23, Fo23⟩ := fld_laid f18 f19 (hw _ (List.mem_of_getElem? (i := 5) rfl)) (Or.inr (hw _ (List.mem_of_getElem? (i := 36) rfl)))
  obtain ⟨T23, H23, X23, e23, W23, st23⟩ := putF X17 hx hZ hown (host := "") (Or.inl (hw _ (List.mem_of_getElem? (i := 35) rfl))) Via.refl e17 Fo23 f18 (Or.inr ⟨(hw _ (List.mem_of_getElem? (i := 36) rfl)), rfl, hnm⟩) (hw _ (List.mem_of_getElem? (i := 5) rfl)) (ty := .double) (by decide) rfl rfl (g := (mkF m 115 #[.val (.ref a), .val (.int lv), .val (.double (FP.l2d pl)), .second, .val (.double (FP.l2d sv)), .second, .val (.double (FP.l2d lo)), .second, .val (.double (FP.l2d hi)), .second] [(.double (FP.l2d hi)), (.ref a)])) rfl rfl (hb hby own_d1_115)
  refine Go.s (fun {t} => st23 t) ?_
  have Fw23 := Fld.same W23 Fo23
  have f24 := Exa.wr W23 f18
  have f25 := Kn.wr f19 W23
  have f26 := Fld.other W23 f20 (Or.inr (slot_ne (Or.inr (hw _ (List.mem_of_getElem? (i := 28) rfl))) (Or.inr (hw _ (List.mem_of_getElem? (i := 36) rfl))) (by decide) (t := .int) (t' := .double) (by decide) (by decide)))
  have f27 := Fld.other W23 f21 (Or.inr (slot_ne (Or.inr (hw _ (List.mem_of_getElem? (i := 30) rfl))) (Or.inr (hw _ (List.mem_of_getElem? (i := 36) rfl))) (by decide) (t := .double) (t' := .double) (by decide) (by decide)))
  have f28 := Fld.other W23 f22 (Or.inr (slot_ne (Or.inr (hw _ (List.mem_of_getElem? (i := 32) rfl))) (Or.inr (hw _ (List.mem_of_getElem? (i := 36) rfl))) (by decide) (t := .double) (t' := .double) (by decide) (by decide)))
  have f29 := Fld.other W23 Fw17 (Or.inr (slot_ne (Or.inr (hw _ (List.mem_of_getElem? (i := 34) rfl))) (Or.inr (hw _ (List.mem_of_getElem? (i := 36) rfl))) (by decide) (t := .double) (t' := .double) (by decide) (by decide)))
  have N23 := Fr.snoc X23 N17 G0
  have Zs23 := Nat.le_trans Zs17 (Keep.of_wr W23).1
  have K23 : Keep h0 H23 [a] := K17.wr W23 (Or.inl (List.mem_of_getElem? (i := 0) rfl))
  show Go p.tables e below P (T23.setTop (mkF m 118 #[.val (.ref a), .val (.int lv), .val (.double (FP.l2d pl)), .second, .val (.double (FP.l2d sv)), .second, .val (.double (FP.l2d lo)), .second, .val (.double (FP.l2d hi)), .second] []))
  exact Go.retV X23 hx hlk hret (hb hby own_d1_118) (fun U hU hF => hP U _ _ (by rw [hU, e23]; exact ⟨rfl, N23, K23, Fw23, f29, f28⟩) ⟨hF.1, hF.2.1, hF.2.2.mono (by decide) (by decide)⟩)
section
variable {r hi lo sv kk wd pl : Int64}
theorem own_lo (a : Int32) (lo : Int64) (h : lo = 1 + (a &&& 65535).toInt64) : 1 ≤ lo.toInt ∧ lo.toInt ≤ 65536 := by
  have e := Jvm.Kit.i32_mask a 65535 (k := 16) (by decide) (by decide)
  have c1 : (1 : Int64).toInt = 1 := rfl
  rw [h, Jvm.Kit.i64_add (by rw [Jvm.Kit.i64_of_i32]; omega) (by rw [Jvm.Kit.i64_of_i32]; omega), Jvm.Kit.i64_of_i32]; omega
theorem own_wd0 : 0 ≤ (0 : Int64).toInt ∧ (0 : Int64).toInt ≤ 65535 := by decide
theorem own_wd (a : Int32) : 0 ≤ ((a &&& 65535).toInt64).toInt ∧ ((a &&& 65535).toInt64).toInt ≤ 65535 := by
  have e := Jvm.Kit.i32_mask a 65535 (k := 16) (by decide) (by decide)
  rw [Jvm.Kit.i64_of_i32]; omega
theorem own_kk (a : Int32) (kk : Int64) (h : kk = (a &&& 1048575).toInt64) : 0 ≤ kk.toInt ∧ kk.toInt ≤ 1048575 := by
  have e := Jvm.Kit.i32_mask a 1048575 (k := 20) (by decide) (by decide)
  rw [h, Jvm.Kit.i64_of_i32]; omega
theorem own_r3 (a : Int32) : -65536 ≤ ((a &&& 262143).toInt64 - 65536).toInt ∧ ((a &&& 262143).toInt64 - 65536).toInt ≤ 262143 := by
  have e := Jvm.Kit.i32_mask a 262143 (k := 18) (by decide) (by decide)
  have c1 : (65536 : Int64).toInt = 65536 := rfl
  rw [Jvm.Kit.i64_sub (by rw [Jvm.Kit.i64_of_i32]; omega) (by rw [Jvm.Kit.i64_of_i32]; omega), Jvm.Kit.i64_of_i32]; omega
theorem own_lv (a : Int32) : ¬ XT.ushr a 16 < 0 := by
  have q : 0 ≤ (a.toUInt32 >>> ((16 : Int32).toUInt32 &&& 31)).toInt32 := Jvm.Kit.i32_iushr_nonneg a (k := 16) (by decide) (by decide) (by decide)
  intro z
  rw [Int32.le_iff_toInt_le] at q
  have z : (a.toUInt32 >>> ((16 : Int32).toUInt32 &&& 31)).toInt32 < 0 := z
  rw [Int32.lt_iff_toInt_lt] at z
  omega
theorem own_pl (a : Int32) (pl : Int64) (h : pl = (1 + (a &&& 65535)).toInt64) : 1 ≤ pl.toInt ∧ pl.toInt ≤ 65536 := by
  have e := Jvm.Kit.i32_mask a 65535 (k := 16) (by decide) (by decide)
  have c1 : (1 : Int32).toInt = 1 := rfl
  rw [h, Jvm.Kit.i64_of_i32, Jvm.Kit.i32_add (by omega) (by omega)]; omega
theorem own_hi (h : hi = lo + wd) (h1 : 1 ≤ lo.toInt ∧ lo.toInt ≤ 65536) (h2 : 0 ≤ wd.toInt ∧ wd.toInt ≤ 65535) : hi.toInt = lo.toInt + wd.toInt := by
  rw [h]; exact Jvm.Kit.i64_add (by omega) (by omega)
theorem own_p1 (h : 1 ≤ pl.toInt ∧ pl.toInt ≤ 65536) : B53 pl := ⟨by omega, by omega⟩
theorem own_p2 (h : 1 ≤ pl.toInt ∧ pl.toInt ≤ 65536) : (0 : Int64) < pl := by have z0 : (0 : Int64).toInt = 0 := rfl; rw [Int64.lt_iff_toInt_lt]; omega
theorem own_c2 (h : own_S r hi lo sv kk) : ¬ sv < (0 : Int64) := by obtain ⟨a, b, c, d, e, f⟩ := h; have z0 : (0 : Int64).toInt = 0 := rfl; rw [Int64.lt_iff_toInt_lt]; omega
theorem own_c3 (h : own_S r hi lo sv kk) : (0 : Int64) < lo := by obtain ⟨a, b, c, d, e, f⟩ := h; have z0 : (0 : Int64).toInt = 0 := rfl; rw [Int64.lt_iff_toInt_lt]; omega
theorem own_c4 (h : own_S r hi lo sv kk) : ¬ hi < lo := by obtain ⟨a, b, c, d, e, f⟩ := h; rw [Int64.lt_iff_toInt_lt]; omega
theorem own_mkA (h1 : 1 ≤ lo.toInt ∧ lo.toInt ≤ 65536) (h2 : 0 ≤ wd.toInt ∧ wd.toInt ≤ 65535) (h3 : hi.toInt = lo.toInt + wd.toInt) (h4 : 0 ≤ kk.toInt ∧ kk.toInt ≤ 1048575) (h5 : -65536 ≤ r.toInt ∧ r.toInt ≤ 262143) (h6 : wd = 0) (h7 : sv = kk) : own_S r hi lo sv kk := by
  have z0 : (0 : Int64).toInt = 0 := rfl
  subst h6 h7
  exact ⟨h1, by omega, h5, h4, by omega, fun q => by omega⟩
theorem own_mkB (h1 : 1 ≤ lo.toInt ∧ lo.toInt ≤ 65536) (h2 : 0 ≤ wd.toInt ∧ wd.toInt ≤ 65535) (h3 : hi.toInt = lo.toInt + wd.toInt) (h4 : 0 ≤ kk.toInt ∧ kk.toInt ≤ 1048575) (h5 : -65536 ≤ r.toInt ∧ r.toInt ≤ 262143) (h7 : sv = kk * wd) : own_S r hi lo sv kk := by
  have m := own_mul1 h4.1 h4.2 h2.1 h2.2
  have e : sv.toInt = kk.toInt * wd.toInt := by rw [h7]; exact Jvm.Kit.i64_mul (by omega) (by omega)
  exact ⟨h1, by omega, h5, h4, by omega, fun q => by rw [e, show hi.toInt - lo.toInt = wd.toInt by omega]⟩
theorem own_B6 (h : own_S r hi lo sv kk) : B53 (own_f6 r hi lo sv kk) := by
  unfold own_f6
  split
  · split
    · rename_i q1 q2
      obtain ⟨k1, k2, k3⟩ := own_k1 h q1 q2
      exact ⟨by omega, by omega⟩
    · exact own_Ssv h
  · exact own_b0
theorem own_eA (h : own_S r hi lo sv kk) (h3 : hi.toInt = lo.toInt + wd.toInt) (h6 : wd = 0) (h7 : sv = kk) (q : r < hi) : own_f6 r hi lo sv kk = kk := by
  have z0 : (0 : Int64).toInt = 0 := rfl
  subst h6
  have n : ¬ lo < r := by rw [Int64.lt_iff_toInt_lt] at q ⊢; omega
  rw [own_f6, if_pos q, if_neg n, h7]
theorem own_eA' (q : ¬ r < hi) : own_f6 r hi lo sv kk = 0 := by rw [own_f6, if_neg q]
theorem own_eB (h : own_S r hi lo sv kk) (h3 : hi.toInt = lo.toInt + wd.toInt) (h2 : 0 ≤ wd.toInt ∧ wd.toInt ≤ 65535) (h7 : sv = kk * wd) : own_f6 r hi lo sv kk = kk * (own_f8 0 (own_f7 (hi - r) wd)) := by
  have z0 : (0 : Int64).toInt = 0 := rfl
  have e1 := own_hr h
  unfold own_f6
  by_cases q1 : r < hi
  · rw [if_pos q1]
    by_cases q2 : lo < r
    · rw [if_pos q2]
      congr 1
      rw [Int64.lt_iff_toInt_lt] at q1 q2
      have a1 : ¬ wd < hi - r := by rw [Int64.lt_iff_toInt_lt]; omega
      have a2 : own_f7 (hi - r) wd = hi - r := by simp only [own_f7, a1, if_false]
      have a3 : (0 : Int64) < hi - r := by rw [Int64.lt_iff_toInt_lt]; omega
      rw [a2]; simp only [own_f8, a3, if_true]
    · rw [if_neg q2, h7]
      congr 1
      rw [Int64.lt_iff_toInt_lt] at q1 q2
      have a2 : own_f7 (hi - r) wd = wd := by
        unfold own_f7; split
        · rfl
        · rename_i z; rw [Int64.lt_iff_toInt_lt] at z; apply Int64.toInt_inj.mp; omega
      rw [a2]; unfold own_f8; split
      · rfl
      · rename_i z; rw [Int64.lt_iff_toInt_lt] at z; apply Int64.toInt_inj.mp; omega
  · rw [if_neg q1]
    rw [Int64.lt_iff_toInt_lt] at q1
    have a2 : own_f7 (hi - r) wd = hi - r := by
      unfold own_f7; split
      · rename_i z; rw [Int64.lt_iff_toInt_lt] at z; omega
      · rfl
    have a3 : own_f8 0 (hi - r) = 0 := by
      unfold own_f8; split
      · rename_i z; rw [Int64.lt_iff_toInt_lt] at z; omega
      · rfl
    rw [a2, a3, Int64.mul_zero]
end
theorem own_ef0 (m : MethodId) (p1 : Int32) (p2 : Int32) (p3 : Int32) (p4 : Int32) (p5 : Int32) : entryFrame m #[(.int p1), (.int p2), (.int p3), (.int p4), (.int p5)] maxLocals = mkF m 0 #[.val (.int p1), .val (.int p2), .val (.int p3), .val (.int p4), .val (.int p5), .unset, .unset, .unset, .unset, .unset, .unset, .unset, .unset, .unset, .unset, .unset, .unset, .unset, .unset, .unset, .unset, .unset, .unset, .unset, .unset, .unset] [] := by
  (first | (simp [entryFrame, mkF, argsToLocals, Value.category, maxLocals]; done) | rfl)
theorem own_pn_3 : plainName "com/example/heraldmesh/heraldmesh/plan/ClusterSavedAbovePinLaw" = true := by first | (simp [plainName, overriddenIn]; done) | decide +kernel
theorem own_pd_2 : parseMethodDescriptor "(IDDDD)V" = some ⟨[.int, .double, .double, .double, .double], none⟩ := by decide +kernel
theorem own_pd_3 : parseMethodDescriptor "(D)D" = some ⟨[.double], some .double⟩ := by decide +kernel
theorem own_pd_4 : parseMethodDescriptor "(JJ)J" = some ⟨[.long, .long], some .long⟩ := by decide +kernel
set_option maxRecDepth 65536 in
set_option maxHeartbeats 40000000 in
theorem own_rm0 (l : Launch) (Z : State) (a0 : Array Value) (hw : ∀ d ∈ tables_1, d.before a0 Z = true) (ws : List Jvm.Cond) (p1 : Int32) (p2 : Int32) (p3 : Int32) (p4 : Int32) (p5 : Int32) (h0 : Heap) (n0 : Nat) (Z0 : n0 ≤ h0.size)  :
    Con l Z x code maxLocals ret ws room_1 #[(.int p1), (.int p2), (.int p3), (.int p4), (.int p5)] h0 (fun v h L => v = some (.int 1) ∧ Fr n0 L) := by
  refine Con.intro (plainFor_of_name own_pn_3) ?_
  intro p e s m below meth c s₁ P hx hby hml hown hnm hret hlk hZ X0 e0 hP
  have N0 := Fr.nil n0
  have hml : c.maxLocals = 26 := hml
  have hown : s.vm.findClass "com/example/heraldmesh/heraldmesh/plan/ClusterSavedAbovePinLaw" = some m.cls := hown
  have hret : meth.sig.returnType = some .boolean := hret
  refine Go.cast (own_ef0 m p1 p2 p3 p4 p5) ?_
  show Go p.tables e below P (s₁.setTop (mkF m 0 #[.val (.int p1), .val (.int p2), .val (.int p3), .val (.int p4), .val (.int p5), .unset, .unset, .unset, .unset, .unset, .unset, .unset, .unset, .unset, .unset, .unset, .unset, .unset, .unset, .unset, .unset, .unset, .unset, .unset, .unset, .unset] []))
  refine Go.s (fun kz => XT.lconst X0.here hx rfl (hb hby at_0) kz) ?_
  show Go p.tables e below P (s₁.setTop (mkF m 1 #[.val (.int p1), .val (.int p2), .val (.int p3), .val (.int p4), .val (.int p5), .unset, .unset, .unset, .unset, .unset, .unset, .unset, .unset, .unset, .unset, .unset, .unset, .unset, .unset, .unset, .unset, .unset, .unset, .unset, .unset, .unset] [(.long (1 : Int64))]))
  refine Go.s (fun kz => XS.iloadN X0.here hx rfl (hb hby at_1) rfl kz) ?_
  show Go p.tables e below P (s₁.setTop (mkF m 2 #[.val (.int p1), .val (.int p2), .val (.int p3), .val (.int p4), .val (.int p5), .unset, .unset, .unset, .unset, .unset, .unset, .unset, .unset, .unset, .unset, .unset, .unset, .unset, .unset, .unset, .unset, .unset, .unset, .unset, .unset, .unset] [(.int p1), (.long (1 : Int64))]))
  refine Go.s (fun kz => X0.ldcI hx hown (mvT hZ (hw _ (List.mem_of_getElem? (i := 0) rfl))) rfl (hb hby at_2) kz) ?_
  show Go p.tables e below P (s₁.setTop (mkF m 4 #[.val (.int p1), .val (.int p2), .val (.int p3), .val (.int p4), .val (.int p5), .unset, .unset, .unset, .unset, .unset, .unset, .unset, .unset, .unset, .unset, .unset, .unset, .unset, .unset, .unset, .unset, .unset, .unset, .unset, .unset, .unset] [(.int (65535 : Int32)), (.int p1), (.long (1 : Int64))]))
  refine Go.s (fun kz => XS.iand X0.here hx rfl (hb hby at_4) rfl kz) ?_
  show Go p.tables e below P (s₁.setTop (mkF m 5 #[.val (.int p1), .val (.int p2), .val (.int p3), .val (.int p4), .val (.int p5), .unset, .unset, .unset, .unset, .unset, .unset, .unset, .unset, .unset, .unset, .unset, .unset, .unset, .unset, .unset, .unset, .unset, .unset, .unset, .unset, .unset] [(.int (p1 &&& (65535 : Int32))), (.long (1 : Int64))]))
  refine Go.s (fun kz => XT.i2l X0.here hx rfl (hb hby at_5) rfl kz) ?_
  show Go p.tables e below P (s₁.setTop (mkF m 6 #[.val (.int p1), .val (.int p2), .val (.int p3), .val (.int p4), .val (.int p5), .unset, .unset, .unset, .unset, .unset, .unset, .unset, .unset, .unset, .unset, .unset, .unset, .unset, .unset, .unset, .unset, .unset, .unset, .unset, .unset, .unset] [(.long (p1 &&& (65535 : Int32)).toInt64), (.long (1 : Int64))]))
  refine Go.s (fun kz => XT.ladd X0.here hx rfl (hb hby at_6) rfl kz) ?_
  show Go p.tables e below P (s₁.setTop (mkF m 7 #[.val (.int p1), .val (.int p2), .val (.int p3), .val (.int p4), .val (.int p5), .unset, .unset, .unset, .unset, .unset, .unset, .unset, .unset, .unset, .unset, .unset, .unset, .unset, .unset, .unset, .unset, .unset, .unset, .unset, .unset, .unset] [(.long ((1 : Int64) + (p1 &&& (65535 : Int32)).toInt64))]))
  refine Go.s (fun kz => XT.lstore X0.here hx rfl (hb hby at_7) rfl (l' := #[.val (.int p1), .val (.int p2), .val (.int p3), .val (.int p4), .val (.int p5), .val (.long ((1 : Int64) + (p1 &&& (65535 : Int32)).toInt64)), .second, .unset, .unset, .unset, .unset, .unset, .unset, .unset, .unset, .unset, .unset, .unset, .unset, .unset, .unset, .unset, .unset, .unset, .unset, .unset]) rfl kz) ?_
  show Go p.tables e below P (s₁.setTop (mkF m 9 #[.val (.int p1), .val (.int p2), .val (.int p3), .val (.int p4), .val (.int p5), .val (.long ((1 : Int64) + (p1 &&& (65535 : Int32)).toInt64)), .second, .unset, .unset, .unset, .unset, .unset, .unset, .unset, .unset, .unset, .unset, .unset, .unset, .unset, .unset, .unset, .unset, .unset, .unset, .unset] []))
  refine (?_ : ∀ lo : Int64, lo = ((1 : Int64) + (p1 &&& (65535 : Int32)).toInt64) → Go p.tables e below P (s₁.setTop (mkF m 9 #[.val (.int p1), .val (.int p2), .val (.int p3), .val (.int p4), .val (.int p5), .val (.long lo), .second, .unset, .unset, .unset, .unset, .unset, .unset, .unset, .unset, .unset, .unset, .unset, .unset, .unset, .unset, .unset, .unset, .unset, .unset, .unset] []))) _ rfl
  intro lo hlo
  have rlo := own_lo _ lo hlo
  refine Go.s (fun kz => XS.iloadN X0.here hx rfl (hb hby at_9) rfl kz) ?_
  show Go p.tables e below P (s₁.setTop (mkF m 10 #[.val (.int p1), .val (.int p2), .val (.int p3), .val (.int p4), .val (.int p5), .val (.long lo), .second, .unset, .unset, .unset, .unset, .unset, .unset, .unset, .unset, .unset, .unset, .unset, .unset, .unset, .unset, .unset, .unset, .unset, .unset, .unset] [(.int p2)]))
  refine Go.s (fun kz => XS.iconst X0.here hx rfl (hb hby at_10) kz) ?_
  show Go p.tables e below P (s₁.setTop (mkF m 11 #[.val (.int p1), .val (.int p2), .val (.int p3), .val (.int p4), .val (.int p5), .val (.long lo), .second, .unset, .unset, .unset, .unset, .unset, .unset, .unset, .unset, .unset, .unset, .unset, .unset, .unset, .unset, .unset, .unset, .unset, .unset, .unset] [(.int (1 : Int32)), (.int p2)]))
  refine Go.s (fun kz => XS.iand X0.here hx rfl (hb hby at_11) rfl kz) ?_
  show Go p.tables e below P (s₁.setTop (mkF m 12 #[.val (.int p1), .val (.int p2), .val (.int p3), .val (.int p4), .val (.int p5), .val (.long lo), .second, .unset, .unset, .unset, .unset, .unset, .unset, .unset, .unset, .unset, .unset, .unset, .unset, .unset, .unset, .unset, .unset, .unset, .unset, .unset] [(.int (p2 &&& (1 : Int32)))]))
  have J26 : ∀ (wd : Int64) (rwd : 0 ≤ wd.toInt ∧ wd.toInt ≤ 65535), Go p.tables e below P (s₁.setTop (mkF m 26 #[.val (.int p1), .val (.int p2), .val (.int p3), .val (.int p4), .val (.int p5), .val (.long lo), .second, .unset, .unset, .unset, .unset, .unset, .unset, .unset, .unset, .unset, .unset, .unset, .unset, .unset, .unset, .unset, .unset, .unset, .unset, .unset] [(.long wd)])) := by
    intro wd rwd
    refine Go.s (fun kz => XT.lstore X0.here hx rfl (hb hby at_26) rfl (l' := #[.val (.int p1), .val (.int p2), .val (.int p3), .val (.int p4), .val (.int p5), .val (.long lo), .second, .val (.long wd), .second, .unset, .unset, .unset, .unset, .unset, .unset, .unset, .unset, .unset, .unset, .unset, .unset, .unset, .unset, .unset, .unset, .unset]) rfl kz) ?_
    show Go p.tables e below P (s₁.setTop (mkF m 28 #[.val (.int p1), .val (.int p2), .val (.int p3), .val (.int p4), .val (.int p5), .val (.long lo), .second, .val (.long wd), .second, .unset, .unset, .unset, .unset, .unset, .unset, .unset, .unset, .unset, .unset, .unset, .unset, .unset, .unset, .unset, .unset, .unset] []))
    refine Go.s (fun kz => XT.lload X0.here hx rfl (hb hby at_28) rfl kz) ?_
    show Go p.tables e below P (s₁.setTop (mkF m 30 #[.val (.int p1), .val (.int p2), .val (.int p3), .val (.int p4), .val (.int p5), .val (.long lo), .second, .val (.long wd), .second, .unset, .unset, .unset, .unset, .unset, .unset, .unset, .unset, .unset, .unset, .unset, .unset, .unset, .unset, .unset, .unset, .unset] [(.long lo)]))
    refine Go.s (fun kz => XT.lload X0.here hx rfl (hb hby at_30) rfl kz) ?_
    show Go p.tables e below P (s₁.setTop (mkF m 32 #[.val (.int p1), .val (.int p2), .val (.int p3), .val (.int p4), .val (.int p5), .val (.long lo), .second, .val (.long wd), .second, .unset, .unset, .unset, .unset, .unset, .unset, .unset, .unset, .unset, .unset, .unset, .unset, .unset, .unset, .unset, .unset, .unset] [(.long wd), (.long lo)]))
    refine Go.s (fun kz => XT.ladd X0.here hx rfl (hb hby at_32) rfl kz) ?_
    show Go p.tables e below P (s₁.setTop (mkF m 33 #[.val (.int p1), .val (.int p2), .val (.int p3), .val (.int p4), .val (.int p5), .val (.long lo), .second, .val (.long wd), .second, .unset, .unset, .unset, .unset, .unset, .unset, .unset, .unset, .unset, .unset, .unset, .unset, .unset, .unset, .unset, .unset, .unset] [(.long (lo + wd))]))
    refine Go.s (fun kz => XT.lstore X0.here hx rfl (hb hby at_33) rfl (l' := #[.val (.int p1), .val (.int p2), .val (.int p3), .val (.int p4), .val (.int p5), .val (.long lo), .second, .val (.long wd), .second, .val (.long (lo + wd)), .second, .unset, .unset, .unset, .unset, .unset, .unset, .unset, .unset, .unset, .unset, .unset, .unset, .unset, .unset, .unset]) rfl kz) ?_
    show Go p.tables e below P (s₁.setTop (mkF m 35 #[.val (.int p1), .val (.int p2), .val (.int p3), .val (.int p4), .val (.int p5), .val (.long lo), .second, .val (.long wd), .second, .val (.long (lo + wd)), .second, .unset, .unset, .unset, .unset, .unset, .unset, .unset, .unset, .unset, .unset, .unset, .unset, .unset, .unset, .unset] []))
    refine (?_ : ∀ hi : Int64, hi = (lo + wd) → Go p.tables e below P (s₁.setTop (mkF m 35 #[.val (.int p1), .val (.int p2), .val (.int p3), .val (.int p4), .val (.int p5), .val (.long lo), .second, .val (.long wd), .second, .val (.long hi), .second, .unset, .unset, .unset, .unset, .unset, .unset, .unset, .unset, .unset, .unset, .unset, .unset, .unset, .unset, .unset] []))) _ rfl
    intro hi hhi
    have rhi := own_hi hhi rlo rwd
    refine Go.s (fun kz => XS.iloadN X0.here hx rfl (hb hby at_35) rfl kz) ?_
    show Go p.tables e below P (s₁.setTop (mkF m 36 #[.val (.int p1), .val (.int p2), .val (.int p3), .val (.int p4), .val (.int p5), .val (.long lo), .second, .val (.long wd), .second, .val (.long hi), .second, .unset, .unset, .unset, .unset, .unset, .unset, .unset, .unset, .unset, .unset, .unset, .unset, .unset, .unset, .unset] [(.int p4)]))
    refine Go.s (fun kz => X0.ldcI hx hown (mvT hZ (hw _ (List.mem_of_getElem? (i := 1) rfl))) rfl (hb hby at_36) kz) ?_
    show Go p.tables e below P (s₁.setTop (mkF m 38 #[.val (.int p1), .val (.int p2), .val (.int p3), .val (.int p4), .val (.int p5), .val (.long lo), .second, .val (.long wd), .second, .val (.long hi), .second, .unset, .unset, .unset, .unset, .unset, .unset, .unset, .unset, .unset, .unset, .unset, .unset, .unset, .unset, .unset] [(.int (1048575 : Int32)), (.int p4)]))
    refine Go.s (fun kz => XS.iand X0.here hx rfl (hb hby at_38) rfl kz) ?_
    show Go p.tables e below P (s₁.setTop (mkF m 39 #[.val (.int p1), .val (.int p2), .val (.int p3), .val (.int p4), .val (.int p5), .val (.long lo), .second, .val (.long wd), .second, .val (.long hi), .second, .unset, .unset, .unset, .unset, .unset, .unset, .unset, .unset, .unset, .unset, .unset, .unset, .unset, .unset, .unset] [(.int (p4 &&& (1048575 : Int32)))]))
    refine Go.s (fun kz => XT.i2l X0.here hx rfl (hb hby at_39) rfl kz) ?_
    show Go p.tables e below P (s₁.setTop (mkF m 40 #[.val (.int p1), .val (.int p2), .val (.int p3), .val (.int p4), .val (.int p5), .val (.long lo), .second, .val (.long wd), .second, .val (.long hi), .second, .unset, .unset, .unset, .unset, .unset, .unset, .unset, .unset, .unset, .unset, .unset, .unset, .unset, .unset, .unset] [(.long (p4 &&& (1048575 : Int32)).toInt64)]))
    refine Go.s (fun kz => XT.lstore X0.here hx rfl (hb hby at_40) rfl (l' := #[.val (.int p1), .val (.int p2), .val (.int p3), .val (.int p4), .val (.int p5), .val (.long lo), .second, .val (.long wd), .second, .val (.long hi), .second, .val (.long (p4 &&& (1048575 : Int32)).toInt64), .second, .unset, .unset, .unset, .unset, .unset, .unset, .unset, .unset, .unset, .unset, .unset, .unset, .unset]) rfl kz) ?_
    show Go p.tables e below P (s₁.setTop (mkF m 42 #[.val (.int p1), .val (.int p2), .val (.int p3), .val (.int p4), .val (.int p5), .val (.long lo), .second, .val (.long wd), .second, .val (.long hi), .second, .val (.long (p4 &&& (1048575 : Int32)).toInt64), .second, .unset, .unset, .unset, .unset, .unset, .unset, .unset, .unset, .unset, .unset, .unset, .unset, .unset] []))
    refine (?_ : ∀ kk : Int64, kk = (p4 &&& (1048575 : Int32)).toInt64 → Go p.tables e below P (s₁.setTop (mkF m 42 #[.val (.int p1), .val (.int p2), .val (.int p3), .val (.int p4), .val (.int p5), .val (.long lo), .second, .val (.long wd), .second, .val (.long hi), .second, .val (.long kk), .second, .unset, .unset, .unset, .unset, .unset, .unset, .unset, .unset, .unset, .unset, .unset, .unset, .unset] []))) _ rfl
    intro kk hkk
    have rkk := own_kk _ kk hkk
    refine Go.s (fun kz => XS.iloadN X0.here hx rfl (hb hby at_42) rfl kz) ?_
    show Go p.tables e below P (s₁.setTop (mkF m 43 #[.val (.int p1), .val (.int p2), .val (.int p3), .val (.int p4), .val (.int p5), .val (.long lo), .second, .val (.long wd), .second, .val (.long hi), .second, .val (.long kk), .second, .unset, .unset, .unset, .unset, .unset, .unset, .unset, .unset, .unset, .unset, .unset, .unset, .unset] [(.int p3)]))
    refine Go.s (fun kz => XS.iconst X0.here hx rfl (hb hby at_43) kz) ?_
    show Go p.tables e below P (s₁.setTop (mkF m 44 #[.val (.int p1), .val (.int p2), .val (.int p3), .val (.int p4), .val (.int p5), .val (.long lo), .second, .val (.long wd), .second, .val (.long hi), .second, .val (.long kk), .second, .unset, .unset, .unset, .unset, .unset, .unset, .unset, .unset, .unset, .unset, .unset, .unset, .unset] [(.int (3 : Int32)), (.int p3)]))
    refine Go.s (fun kz => XS.iand X0.here hx rfl (hb hby at_44) rfl kz) ?_
    show Go p.tables e below P (s₁.setTop (mkF m 45 #[.val (.int p1), .val (.int p2), .val (.int p3), .val (.int p4), .val (.int p5), .val (.long lo), .second, .val (.long wd), .second, .val (.long hi), .second, .val (.long kk), .second, .unset, .unset, .unset, .unset, .unset, .unset, .unset, .unset, .unset, .unset, .unset, .unset, .unset] [(.int (p3 &&& (3 : Int32)))]))
    refine Go.s (fun kz => XS.istore X0.here hx rfl (hb hby at_45) rfl (l' := #[.val (.int p1), .val (.int p2), .val (.int p3), .val (.int p4), .val (.int p5), .val (.long lo), .second, .val (.long wd), .second, .val (.long hi), .second, .val (.long kk), .second, .val (.int (p3 &&& (3 : Int32))), .unset, .unset, .unset, .unset, .unset, .unset, .unset, .unset, .unset, .unset, .unset, .unset]) rfl kz) ?_
    show Go p.tables e below P (s₁.setTop (mkF m 47 #[.val (.int p1), .val (.int p2), .val (.int p3), .val (.int p4), .val (.int p5), .val (.long lo), .second, .val (.long wd), .second, .val (.long hi), .second, .val (.long kk), .second, .val (.int (p3 &&& (3 : Int32))), .unset, .unset, .unset, .unset, .unset, .unset, .unset, .unset, .unset, .unset, .unset, .unset] []))
    refine Go.s (fun kz => XS.iload X0.here hx rfl (hb hby at_47) rfl kz) ?_
    show Go p.tables e below P (s₁.setTop (mkF m 49 #[.val (.int p1), .val (.int p2), .val (.int p3), .val (.int p4), .val (.int p5), .val (.long lo), .second, .val (.long wd), .second, .val (.long hi), .second, .val (.long kk), .second, .val (.int (p3 &&& (3 : Int32))), .unset, .unset, .unset, .unset, .unset, .unset, .unset, .unset, .unset, .unset, .unset, .unset] [(.int (p3 &&& (3 : Int32)))]))
    have J85 : ∀ (rr : Int64) (rrr : -65536 ≤ rr.toInt ∧ rr.toInt ≤ 262143), Go p.tables e below P (s₁.setTop (mkF m 85 #[.val (.int p1), .val (.int p2), .val (.int p3), .val (.int p4), .val (.int p5), .val (.long lo), .second, .val (.long wd), .second, .val (.long hi), .second, .val (.long kk), .second, .val (.int (p3 &&& (3 : Int32))), .val (.long rr), .second, .unset, .unset, .unset, .unset, .unset, .unset, .unset, .unset, .unset, .unset] [])) := by
      intro rr rrr
      refine Go.s (fun kz => XS.iload X0.here hx rfl (hb hby at_85) rfl kz) ?_
      show Go p.tables e below P (s₁.setTop (mkF m 87 #[.val (.int p1), .val (.int p2), .val (.int p3), .val (.int p4), .val (.int p5), .val (.long lo), .second, .val (.long wd), .second, .val (.long hi), .second, .val (.long kk), .second, .val (.int (p3 &&& (3 : Int32))), .val (.long rr), .second, .unset, .unset, .unset, .unset, .unset, .unset, .unset, .unset, .unset, .unset] [(.int p5)]))
      refine Go.s (fun kz => XS.bipush X0.here hx rfl (hb hby at_87) kz) ?_
      show Go p.tables e below P (s₁.setTop (mkF m 89 #[.val (.int p1), .val (.int p2), .val (.int p3), .val (.int p4), .val (.int p5), .val (.long lo), .second, .val (.long wd), .second, .val (.long hi), .second, .val (.long kk), .second, .val (.int (p3 &&& (3 : Int32))), .val (.long rr), .second, .unset, .unset, .unset, .unset, .unset, .unset, .unset, .unset, .unset, .unset] [(.int (16 : Int32)), (.int p5)]))
      refine Go.s (fun kz => XT.iushr X0.here hx rfl (hb hby at_89) rfl kz) ?_
      show Go p.tables e below P (s₁.setTop (mkF m 90 #[.val (.int p1), .val (.int p2), .val (.int p3), .val (.int p4), .val (.int p5), .val (.long lo), .second, .val (.long wd), .second, .val (.long hi), .second, .val (.long kk), .second, .val (.int (p3 &&& (3 : Int32))), .val (.long rr), .second, .unset, .unset, .unset, .unset, .unset, .unset, .unset, .unset, .unset, .unset] [(.int (XT.ushr p5 (16 : Int32)))]))
      refine Go.s (fun kz => XS.istore X0.here hx rfl (hb hby at_90) rfl (l' := #[.val (.int p1), .val (.int p2), .val (.int p3), .val (.int p4), .val (.int p5), .val (.long lo), .second, .val (.long wd), .second, .val (.long hi), .second, .val (.long kk), .second, .val (.int (p3 &&& (3 : Int32))), .val (.long rr), .second, .val (.int (XT.ushr p5 (16 : Int32))), .unset, .unset, .unset, .unset, .unset, .unset, .unset, .unset, .unset]) rfl kz) ?_
      show Go p.tables e below P (s₁.setTop (mkF m 92 #[.val (.int p1), .val (.int p2), .val (.int p3), .val (.int p4), .val (.int p5), .val (.long lo), .second, .val (.long wd), .second, .val (.long hi), .second, .val (.long kk), .second, .val (.int (p3 &&& (3 : Int32))), .val (.long rr), .second, .val (.int (XT.ushr p5 (16 : Int32))), .unset, .unset, .unset, .unset, .unset, .unset, .unset, .unset, .unset] []))
      refine (?_ : ∀ lv : Int32, lv = (XT.ushr p5 (16 : Int32)) → Go p.tables e below P (s₁.setTop (mkF m 92 #[.val (.int p1), .val (.int p2), .val (.int p3), .val (.int p4), .val (.int p5), .val (.long lo), .second, .val (.long wd), .second, .val (.long hi), .second, .val (.long kk), .second, .val (.int (p3 &&& (3 : Int32))), .val (.long rr), .second, .val (.int lv), .unset, .unset, .unset, .unset, .unset, .unset, .unset, .unset, .unset] []))) _ rfl
      intro lv hlv0
      have hlv : ¬ lv < 0 := by rw [hlv0]; exact own_lv _
      refine Go.s (fun kz => XS.iconst X0.here hx rfl (hb hby at_92) kz) ?_
      show Go p.tables e below P (s₁.setTop (mkF m 93 #[.val (.int p1), .val (.int p2), .val (.int p3), .val (.int p4), .val (.int p5), .val (.long lo), .second, .val (.long wd), .second, .val (.long hi), .second, .val (.long kk), .second, .val (.int (p3 &&& (3 : Int32))), .val (.long rr), .second, .val (.int lv), .unset, .unset, .unset, .unset, .unset, .unset, .unset, .unset, .unset] [(.int (1 : Int32))]))
      refine Go.s (fun kz => XS.iload X0.here hx rfl (hb hby at_93) rfl kz) ?_
      show Go p.tables e below P (s₁.setTop (mkF m 95 #[.val (.int p1), .val (.int p2), .val (.int p3), .val (.int p4), .val (.int p5), .val (.long lo), .second, .val (.long wd), .second, .val (.long hi), .second, .val (.long kk), .second, .val (.int (p3 &&& (3 : Int32))), .val (.long rr), .second, .val (.int lv), .unset, .unset, .unset, .unset, .unset, .unset, .unset, .unset, .unset] [(.int p5), (.int (1 : Int32))]))
      refine Go.s (fun kz => X0.ldcI hx hown (mvT hZ (hw _ (List.mem_of_getElem? (i := 0) rfl))) rfl (hb hby at_95) kz) ?_
      show Go p.tables e below P (s₁.setTop (mkF m 97 #[.val (.int p1), .val (.int p2), .val (.int p3), .val (.int p4), .val (.int p5), .val (.long lo), .second, .val (.long wd), .second, .val (.long hi), .second, .val (.long kk), .second, .val (.int (p3 &&& (3 : Int32))), .val (.long rr), .second, .val (.int lv), .unset, .unset, .unset, .unset, .unset, .unset, .unset, .unset, .unset] [(.int (65535 : Int32)), (.int p5), (.int (1 : Int32))]))
      refine Go.s (fun kz => XS.iand X0.here hx rfl (hb hby at_97) rfl kz) ?_
      show Go p.tables e below P (s₁.setTop (mkF m 98 #[.val (.int p1), .val (.int p2), .val (.int p3), .val (.int p4), .val (.int p5), .val (.long lo), .second, .val (.long wd), .second, .val (.long hi), .second, .val (.long kk), .second, .val (.int (p3 &&& (3 : Int32))), .val (.long rr), .second, .val (.int lv), .unset, .unset, .unset, .unset, .unset, .unset, .unset, .unset, .unset] [(.int (p5 &&& (65535 : Int32))), (.int (1 : Int32))]))
      refine Go.s (fun kz => XS.iadd X0.here hx rfl (hb hby at_98) rfl kz) ?_
      show Go p.tables e below P (s₁.setTop (mkF m 99 #[.val (.int p1), .val (.int p2), .val (.int p3), .val (.int p4), .val (.int p5), .val (.long lo), .second, .val (.long wd), .second, .val (.long hi), .second, .val (.long kk), .second, .val (.int (p3 &&& (3 : Int32))), .val (.long rr), .second, .val (.int lv), .unset, .unset, .unset, .unset, .unset, .unset, .unset, .unset, .unset] [(.int ((1 : Int32) + (p5 &&& (65535 : Int32))))]))
      refine Go.s (fun kz => XS.i2dS X0.here hx rfl (hb hby at_99) rfl (i2d_w ((1 : Int32) + (p5 &&& (65535 : Int32)))) kz) ?_
      show Go p.tables e below P (s₁.setTop (mkF m 100 #[.val (.int p1), .val (.int p2), .val (.int p3), .val (.int p4), .val (.int p5), .val (.long lo), .second, .val (.long wd), .second, .val (.long hi), .second, .val (.long kk), .second, .val (.int (p3 &&& (3 : Int32))), .val (.long rr), .second, .val (.int lv), .unset, .unset, .unset, .unset, .unset, .unset, .unset, .unset, .unset] [(.double (FP.l2d (((1 : Int32) + (p5 &&& (65535 : Int32))).toInt64)))]))
      refine Go.s (fun kz => XS.dstore X0.here hx rfl (hb hby at_100) rfl (l' := #[.val (.int p1), .val (.int p2), .val (.int p3), .val (.int p4), .val (.int p5), .val (.long lo), .second, .val (.long wd), .second, .val (.long hi), .second, .val (.long kk), .second, .val (.int (p3 &&& (3 : Int32))), .val (.long rr), .second, .val (.int lv), .val (.double (FP.l2d (((1 : Int32) + (p5 &&& (65535 : Int32))).toInt64))), .second, .unset, .unset, .unset, .unset, .unset, .unset, .unset]) rfl kz) ?_
      show Go p.tables e below P (s₁.setTop (mkF m 102 #[.val (.int p1), .val (.int p2), .val (.int p3), .val (.int p4), .val (.int p5), .val (.long lo), .second, .val (.long wd), .second, .val (.long hi), .second, .val (.long kk), .second, .val (.int (p3 &&& (3 : Int32))), .val (.long rr), .second, .val (.int lv), .val (.double (FP.l2d (((1 : Int32) + (p5 &&& (65535 : Int32))).toInt64))), .second, .unset, .unset, .unset, .unset, .unset, .unset, .unset] []))
      refine (?_ : ∀ pl : Int64, pl = ((1 : Int32) + (p5 &&& (65535 : Int32))).toInt64 → Go p.tables e below P (s₁.setTop (mkF m 102 #[.val (.int p1), .val (.int p2), .val (.int p3), .val (.int p4), .val (.int p5), .val (.long lo), .second, .val (.long wd), .second, .val (.long hi), .second, .val (.long kk), .second, .val (.int (p3 &&& (3 : Int32))), .val (.long rr), .second, .val (.int lv), .val (.double (FP.l2d pl)), .second, .unset, .unset, .unset, .unset, .unset, .unset, .unset] []))) _ rfl
      intro pl hpl
      have rpl := own_pl _ pl hpl
      refine Go.s (fun kz => XT.lload X0.here hx rfl (hb hby at_102) rfl kz) ?_
      show Go p.tables e below P (s₁.setTop (mkF m 104 #[.val (.int p1), .val (.int p2), .val (.int p3), .val (.int p4), .val (.int p5), .val (.long lo), .second, .val (.long wd), .second, .val (.long hi), .second, .val (.long kk), .second, .val (.int (p3 &&& (3 : Int32))), .val (.long rr), .second, .val (.int lv), .val (.double (FP.l2d pl)), .second, .unset, .unset, .unset, .unset, .unset, .unset, .unset] [(.long wd)]))
      refine Go.s (fun kz => XT.lconst X0.here hx rfl (hb hby at_104) kz) ?_
      show Go p.tables e below P (s₁.setTop (mkF m 105 #[.val (.int p1), .val (.int p2), .val (.int p3), .val (.int p4), .val (.int p5), .val (.long lo), .second, .val (.long wd), .second, .val (.long hi), .second, .val (.long kk), .second, .val (.int (p3 &&& (3 : Int32))), .val (.long rr), .second, .val (.int lv), .val (.double (FP.l2d pl)), .second, .unset, .unset, .unset, .unset, .unset, .unset, .unset] [(.long (0 : Int64)), (.long wd)]))
      refine Go.s (fun kz => XT.lcmp X0.here hx rfl (hb hby at_105) rfl kz) ?_
      show Go p.tables e below P (s₁.setTop (mkF m 106 #[.val (.int p1), .val (.int p2), .val (.int p3), .val (.int p4), .val (.int p5), .val (.long lo), .second, .val (.long wd), .second, .val (.long hi), .second, .val (.long kk), .second, .val (.int (p3 &&& (3 : Int32))), .val (.long rr), .second, .val (.int lv), .val (.double (FP.l2d pl)), .second, .unset, .unset, .unset, .unset, .unset, .unset, .unset] [(.int (XT.cmpL wd (0 : Int64)))]))
      by_cases hc106 : wd = (0 : Int64)
      · skip
        refine Go.s (fun kz => XS.ifNo X0.here hx rfl (hb hby at_106) rfl (XT.ll_ne_f hc106) kz) ?_
        show Go p.tables e below P (s₁.setTop (mkF m 109 #[.val (.int p1), .val (.int p2), .val (.int p3), .val (.int p4), .val (.int p5), .val (.long lo), .second, .val (.long wd), .second, .val (.long hi), .second, .val (.long kk), .second, .val (.int (p3 &&& (3 : Int32))), .val (.long rr), .second, .val (.int lv), .val (.double (FP.l2d pl)), .second, .unset, .unset, .unset, .unset, .unset, .unset, .unset] []))
        refine Go.s (fun kz => XT.lload X0.here hx rfl (hb hby at_109) rfl kz) ?_
        show Go p.tables e below P (s₁.setTop (mkF m 111 #[.val (.int p1), .val (.int p2), .val (.int p3), .val (.int p4), .val (.int p5), .val (.long lo), .second, .val (.long wd), .second, .val (.long hi), .second, .val (.long kk), .second, .val (.int (p3 &&& (3 : Int32))), .val (.long rr), .second, .val (.int lv), .val (.double (FP.l2d pl)), .second, .unset, .unset, .unset, .unset, .unset, .unset, .unset] [(.long kk)]))
        refine Go.s (fun kz => XS.goto X0.here hx rfl (pc0 := 111) (pc' := 119) rfl (hb hby at_111) (by decide) (by decide) kz) ?_
        show Go p.tables e below P (s₁.setTop (mkF m 119 #[.val (.int p1), .val (.int p2), .val (.int p3), .val (.int p4), .val (.int p5), .val (.long lo), .second, .val (.long wd), .second, .val (.long hi), .second, .val (.long kk), .second, .val (.int (p3 &&& (3 : Int32))), .val (.long rr), .second, .val (.int lv), .val (.double (FP.l2d pl)), .second, .unset, .unset, .unset, .unset, .unset, .unset, .unset] [(.long kk)]))
        refine (?_ : ∀ sv : Int64, sv = kk → Go p.tables e below P (s₁.setTop (mkF m 119 #[.val (.int p1), .val (.int p2), .val (.int p3), .val (.int p4), .val (.int p5), .val (.long lo), .second, .val (.long wd), .second, .val (.long hi), .second, .val (.long kk), .second, .val (.int (p3 &&& (3 : Int32))), .val (.long rr), .second, .val (.int lv), .val (.double (FP.l2d pl)), .second, .unset, .unset, .unset, .unset, .unset, .unset, .unset] [(.long sv)]))) _ rfl
        intro sv hsv
        have hs : own_S rr hi lo sv kk := own_mkA rlo rwd rhi rkk rrr hc106 hsv
        refine Go.s (fun kz => XT.lstore X0.here hx rfl (hb hby at_119) rfl (l' := #[.val (.int p1), .val (.int p2), .val (.int p3), .val (.int p4), .val (.int p5), .val (.long lo), .second, .val (.long wd), .second, .val (.long hi), .second, .val (.long kk), .second, .val (.int (p3 &&& (3 : Int32))), .val (.long rr), .second, .val (.int lv), .val (.double (FP.l2d pl)), .second, .val (.long sv), .second, .unset, .unset, .unset, .unset, .unset]) rfl kz) ?_
        show Go p.tables e below P (s₁.setTop (mkF m 121 #[.val (.int p1), .val (.int p2), .val (.int p3), .val (.int p4), .val (.int p5), .val (.long lo), .second, .val (.long wd), .second, .val (.long hi), .second, .val (.long kk), .second, .val (.int (p3 &&& (3 : Int32))), .val (.long rr), .second, .val (.int lv), .val (.double (FP.l2d pl)), .second, .val (.long sv), .second, .unset, .unset, .unset, .unset, .unset] []))
        obtain ⟨T1, H1, X1, e1, E1, A1, D1, U1, st1⟩ := newO X0 hx hZ hown (hw _ (List.mem_of_getElem? (i := 4) rfl)) (hw _ (List.mem_of_getElem? (i := 5) rfl)) (hw _ (List.mem_of_getElem? (i := 6) rfl)) e0 (g := (mkF m 121 #[.val (.int p1), .val (.int p2), .val (.int p3), .val (.int p4), .val (.int p5), .val (.long lo), .second, .val (.long wd), .second, .val (.long hi), .second, .val (.long kk), .second, .val (.int (p3 &&& (3 : Int32))), .val (.long rr), .second, .val (.int lv), .val (.double (FP.l2d pl)), .second, .val (.long sv), .second, .unset, .unset, .unset, .unset, .unset] [])) rfl (hb hby at_121) (by decide) (by decide)
        refine Go.s (fun {t} => st1 t) ?_
        obtain ⟨b1, g1⟩ : ∃ z, z = h0.size := ⟨_, rfl⟩
        rw [← g1] at A1 D1 U1
        rw [← g1]
        have G_b1 : n0 ≤ b1 := Nat.le_trans Z0 (Nat.le_of_eq g1.symm)
        have Zs1 := Nat.le_trans Z0 E1.1
        have Kn1 := Kn.of_new U1
        show Go p.tables e below P (T1.setTop (mkF m 124 #[.val (.int p1), .val (.int p2), .val (.int p3), .val (.int p4), .val (.int p5), .val (.long lo), .second, .val (.long wd), .second, .val (.long hi), .second, .val (.long kk), .second, .val (.int (p3 &&& (3 : Int32))), .val (.long rr), .second, .val (.int lv), .val (.double (FP.l2d pl)), .second, .val (.long sv), .second, .unset, .unset, .unset, .unset, .unset] [(.ref b1)]))
        refine Go.s (fun kz => XS.dup X1.here hx rfl (hb hby at_124) rfl rfl kz) ?_
        show Go p.tables e below P (T1.setTop (mkF m 125 #[.val (.int p1), .val (.int p2), .val (.int p3), .val (.int p4), .val (.int p5), .val (.long lo), .second, .val (.long wd), .second, .val (.long hi), .second, .val (.long kk), .second, .val (.int (p3 &&& (3 : Int32))), .val (.long rr), .second, .val (.int lv), .val (.double (FP.l2d pl)), .second, .val (.long sv), .second, .unset, .unset, .unset, .unset, .unset] [(.ref b1), (.ref b1)]))
        refine Go.s (fun kz => XS.iload X1.here hx rfl (hb hby at_125) rfl kz) ?_
        show Go p.tables e below P (T1.setTop (mkF m 127 #[.val (.int p1), .val (.int p2), .val (.int p3), .val (.int p4), .val (.int p5), .val (.long lo), .second, .val (.long wd), .second, .val (.long hi), .second, .val (.long kk), .second, .val (.int (p3 &&& (3 : Int32))), .val (.long rr), .second, .val (.int lv), .val (.double (FP.l2d pl)), .second, .val (.long sv), .second, .unset, .unset, .unset, .unset, .unset] [(.int lv), (.ref b1), (.ref b1)]))
        refine Go.s (fun kz => XS.dload X1.here hx rfl (hb hby at_127) rfl kz) ?_
        show Go p.tables e below P (T1.setTop (mkF m 129 #[.val (.int p1), .val (.int p2), .val (.int p3), .val (.int p4), .val (.int p5), .val (.long lo), .second, .val (.long wd), .second, .val (.long hi), .second, .val (.long kk), .second, .val (.int (p3 &&& (3 : Int32))), .val (.long rr), .second, .val (.int lv), .val (.double (FP.l2d pl)), .second, .val (.long sv), .second, .unset, .unset, .unset, .unset, .unset] [(.double (FP.l2d pl)), (.int lv), (.ref b1), (.ref b1)]))
        refine Go.s (fun kz => XT.lload X1.here hx rfl (hb hby at_129) rfl kz) ?_
        show Go p.tables e below P (T1.setTop (mkF m 131 #[.val (.int p1), .val (.int p2), .val (.int p3), .val (.int p4), .val (.int p5), .val (.long lo), .second, .val (.long wd), .second, .val (.long hi), .second, .val (.long kk), .second, .val (.int (p3 &&& (3 : Int32))), .val (.long rr), .second, .val (.int lv), .val (.double (FP.l2d pl)), .second, .val (.long sv), .second, .unset, .unset, .unset, .unset, .unset] [(.long sv), (.double (FP.l2d pl)), (.int lv), (.ref b1), (.ref b1)]))
        refine Go.s (fun kz => XS.l2dS X1.here hx rfl (hb hby at_131) rfl rfl kz) ?_
        show Go p.tables e below P (T1.setTop (mkF m 132 #[.val (.int p1), .val (.int p2), .val (.int p3), .val (.int p4), .val (.int p5), .val (.long lo), .second, .val (.long wd), .second, .val (.long hi), .second, .val (.long kk), .second, .val (.int (p3 &&& (3 : Int32))), .val (.long rr), .second, .val (.int lv), .val (.double (FP.l2d pl)), .second, .val (.long sv), .second, .unset, .unset, .unset, .unset, .unset] [(.double (FP.l2d sv)), (.double (FP.l2d pl)), (.int lv), (.ref b1), (.ref b1)]))
        refine Go.s (fun kz => XT.lload X1.here hx rfl (hb hby at_132) rfl kz) ?_
        show Go p.tables e below P (T1.setTop (mkF m 134 #[.val (.int p1), .val (.int p2), .val (.int p3), .val (.int p4), .val (.int p5), .val (.long lo), .second, .val (.long wd), .second, .val (.long hi), .second, .val (.long kk), .second, .val (.int (p3 &&& (3 : Int32))), .val (.long rr), .second, .val (.int lv), .val (.double (FP.l2d pl)), .second, .val (.long sv), .second, .unset, .unset, .unset, .unset, .unset] [(.long lo), (.double (FP.l2d sv)), (.double (FP.l2d pl)), (.int lv), (.ref b1), (.ref b1)]))
        refine Go.s (fun kz => XS.l2dS X1.here hx rfl (hb hby at_134) rfl rfl kz) ?_
        show Go p.tables e below P (T1.setTop (mkF m 135 #[.val (.int p1), .val (.int p2), .val (.int p3), .val (.int p4), .val (.int p5), .val (.long lo), .second, .val (.long wd), .second, .val (.long hi), .second, .val (.long kk), .second, .val (.int (p3 &&& (3 : Int32))), .val (.long rr), .second, .val (.int lv), .val (.double (FP.l2d pl)), .second, .val (.long sv), .second, .unset, .unset, .unset, .unset, .unset] [(.double (FP.l2d lo)), (.double (FP.l2d sv)), (.double (FP.l2d pl)), (.int lv), (.ref b1), (.ref b1)]))
        refine Go.s (fun kz => XT.lload X1.here hx rfl (hb hby at_135) rfl kz) ?_
        show Go p.tables e below P (T1.setTop (mkF m 137 #[.val (.int p1), .val (.int p2), .val (.int p3), .val (.int p4), .val (.int p5), .val (.long lo), .second, .val (.long wd), .second, .val (.long hi), .second, .val (.long kk), .second, .val (.int (p3 &&& (3 : Int32))), .val (.long rr), .second, .val (.int lv), .val (.double (FP.l2d pl)), .second, .val (.long sv), .second, .unset, .unset, .unset, .unset, .unset] [(.long hi), (.double (FP.l2d lo)), (.double (FP.l2d sv)), (.double (FP.l2d pl)), (.int lv), (.ref b1), (.ref b1)]))
        refine Go.s (fun kz => XS.l2dS X1.here hx rfl (hb hby at_137) rfl rfl kz) ?_
        show Go p.tables e below P (T1.setTop (mkF m 138 #[.val (.int p1), .val (.int p2), .val (.int p3), .val (.int p4), .val (.int p5), .val (.long lo), .second, .val (.long wd), .second, .val (.long hi), .second, .val (.long kk), .second, .val (.int (p3 &&& (3 : Int32))), .val (.long rr), .second, .val (.int lv), .val (.double (FP.l2d pl)), .second, .val (.long sv), .second, .unset, .unset, .unset, .unset, .unset] [(.double (FP.l2d hi)), (.double (FP.l2d lo)), (.double (FP.l2d sv)), (.double (FP.l2d pl)), (.int lv), (.ref b1), (.ref b1)]))
        obtain ⟨v2, T2, L2, X2, Q2, st2⟩ := Con.special (own_rm1 l Z a0 hw [] b1 lv pl sv lo hi H1 n0 Zs1 A1 Kn1 G_b1  hlv (own_p1 rpl) (own_p2 rpl) (own_Ssv hs) (own_c2 hs) (own_Slo hs) (own_c3 hs) (own_Shi hs) (own_c4 hs)) rfl X1 hx hZ (W := 1) hown (hw _ (List.mem_of_getElem? (i := 7) rfl)) (hw _ (List.mem_of_getElem? (i := 8) rfl)) (hw _ (List.mem_of_getElem? (i := 6) rfl)) (hw _ (List.mem_of_getElem? (i := 9) rfl)) (by decide) (by decide) (by decide) (by decide) (by decide) e1 (g := (mkF m 138 #[.val (.int p1), .val (.int p2), .val (.int p3), .val (.int p4), .val (.int p5), .val (.long lo), .second, .val (.long wd), .second, .val (.long hi), .second, .val (.long kk), .second, .val (.int (p3 &&& (3 : Int32))), .val (.long rr), .second, .val (.int lv), .val (.double (FP.l2d pl)), .second, .val (.long sv), .second, .unset, .unset, .unset, .unset, .unset] [(.double (FP.l2d hi)), (.double (FP.l2d lo)), (.double (FP.l2d sv)), (.double (FP.l2d pl)), (.int lv), (.ref b1), (.ref b1)])) rfl (by rw [hml]; rfl) (argsL := [(.int lv), (.double (FP.l2d pl)), (.double (FP.l2d sv)), (.double (FP.l2d lo)), (.double (FP.l2d hi))]) (rest := [(.ref b1)]) rfl (lenOf own_pd_2 rfl) rfl (by show 2 * 0 + _ ≤ _; exact Nat.le_of_eq rfl) (hb hby at_138)
        obtain ⟨H2, e2⟩ : ∃ z, T2.heap = z := ⟨_, rfl⟩
        rw [e2] at Q2
        obtain ⟨rfl, Nq2, Kq2, Fq2_high, Fq2_low, Fq2_saved⟩ := Q2
        have N2 := Fr.app N0 Nq2
        have Zs2 := Nat.le_trans Zs1 Kq2.1
        have f3 := Exa.keep A1 Kq2
        have f4 := Kn.keep Kn1 Kq2
        refine Go.s (fun {t} => st2) ?_
        show Go p.tables e below P (T2.setTop (mkF m 141 #[.val (.int p1), .val (.int p2), .val (.int p3), .val (.int p4), .val (.int p5), .val (.long lo), .second, .val (.long wd), .second, .val (.long hi), .second, .val (.long kk), .second, .val (.int (p3 &&& (3 : Int32))), .val (.long rr), .second, .val (.int lv), .val (.double (FP.l2d pl)), .second, .val (.long sv), .second, .unset, .unset, .unset, .unset, .unset] [(.ref b1)]))
        refine Go.s (fun kz => XS.astore X2.here hx rfl (hb hby at_141) rfl rfl (l' := #[.val (.int p1), .val (.int p2), .val (.int p3), .val (.int p4), .val (.int p5), .val (.long lo), .second, .val (.long wd), .second, .val (.long hi), .second, .val (.long kk), .second, .val (.int (p3 &&& (3 : Int32))), .val (.long rr), .second, .val (.int lv), .val (.double (FP.l2d pl)), .second, .val (.long sv), .second, .val (.ref b1), .unset, .unset, .unset, .unset]) rfl kz) ?_
        show Go p.tables e below P (T2.setTop (mkF m 143 #[.val (.int p1), .val (.int p2), .val (.int p3), .val (.int p4), .val (.int p5), .val (.long lo), .second, .val (.long wd), .second, .val (.long hi), .second, .val (.long kk), .second, .val (.int (p3 &&& (3 : Int32))), .val (.long rr), .second, .val (.int lv), .val (.double (FP.l2d pl)), .second, .val (.long sv), .second, .val (.ref b1), .unset, .unset, .unset, .unset] []))
        refine Go.s (fun kz => XS.aload X2.here hx rfl (hb hby at_143) rfl rfl kz) ?_
        show Go p.tables e below P (T2.setTop (mkF m 145 #[.val (.int p1), .val (.int p2), .val (.int p3), .val (.int p4), .val (.int p5), .val (.long lo), .second, .val (.long wd), .second, .val (.long hi), .second, .val (.long kk), .second, .val (.int (p3 &&& (3 : Int32))), .val (.long rr), .second, .val (.int lv), .val (.double (FP.l2d pl)), .second, .val (.long sv), .second, .val (.ref b1), .unset, .unset, .unset, .unset] [(.ref b1)]))
        refine Go.s (fun kz => XT.lload X2.here hx rfl (hb hby at_145) rfl kz) ?_
        show Go p.tables e below P (T2.setTop (mkF m 147 #[.val (.int p1), .val (.int p2), .val (.int p3), .val (.int p4), .val (.int p5), .val (.long lo), .second, .val (.long wd), .second, .val (.long hi), .second, .val (.long kk), .second, .val (.int (p3 &&& (3 : Int32))), .val (.long rr), .second, .val (.int lv), .val (.double (FP.l2d pl)), .second, .val (.long sv), .second, .val (.ref b1), .unset, .unset, .unset, .unset] [(.long rr), (.ref b1)]))
        refine Go.s (fun kz => XS.l2dS X2.here hx rfl (hb hby at_147) rfl rfl kz) ?_
        show Go p.tables e below P (T2.setTop (mkF m 148 #[.val (.int p1), .val (.int p2), .val (.int p3), .val (.int p4), .val (.int p5), .val (.long lo), .second, .val (.long wd), .second, .val (.long hi), .second, .val (.long kk), .second, .val (.int (p3 &&& (3 : Int32))), .val (.long rr), .second, .val (.int lv), .val (.double (FP.l2d pl)), .second, .val (.long sv), .second, .val (.ref b1), .unset, .unset, .unset, .unset] [(.double (FP.l2d rr)), (.ref b1)]))
        obtain ⟨v5, T5, L5, X5, Q5, st5⟩ := Con.virtual (own_rm6 l Z a0 hw [] b1 rr hi lo sv H2 n0 Zs2 Fq2_high Fq2_low Fq2_saved kk hs) X2 hx hZ (W := 0) hown (hw _ (List.mem_of_getElem? (i := 37) rfl)) (hw _ (List.mem_of_getElem? (i := 38) rfl)) (hw _ (List.mem_of_getElem? (i := 40) rfl)) (hw _ (List.mem_of_getElem? (i := 39) rfl)) (hw _ (List.mem_of_getElem? (i := 6) rfl)) (hw _ (List.mem_of_getElem? (i := 41) rfl)) (by decide) (by decide) (by decide) (by decide) (by decide) e2 (g := (mkF m 148 #[.val (.int p1), .val (.int p2), .val (.int p3), .val (.int p4), .val (.int p5), .val (.long lo), .second, .val (.long wd), .second, .val (.long hi), .second, .val (.long kk), .second, .val (.int (p3 &&& (3 : Int32))), .val (.long rr), .second, .val (.int lv), .val (.double (FP.l2d pl)), .second, .val (.long sv), .second, .val (.ref b1), .unset, .unset, .unset, .unset] [(.double (FP.l2d rr)), (.ref b1)])) rfl (by rw [hml]; rfl) f3 (argsL := [(.double (FP.l2d rr))]) (rest := []) rfl (lenOf own_pd_3 rfl) rfl (by show 2 * 0 + _ ≤ _; exact Nat.le_of_eq rfl) (hb hby at_148)
        obtain ⟨rfl, Nq5, e5⟩ := Q5
        have N5 := Fr.app N2 Nq5
        refine Go.s (fun {t} => st5) ?_
        show Go p.tables e below P (T5.setTop (mkF m 151 #[.val (.int p1), .val (.int p2), .val (.int p3), .val (.int p4), .val (.int p5), .val (.long lo), .second, .val (.long wd), .second, .val (.long hi), .second, .val (.long kk), .second, .val (.int (p3 &&& (3 : Int32))), .val (.long rr), .second, .val (.int lv), .val (.double (FP.l2d pl)), .second, .val (.long sv), .second, .val (.ref b1), .unset, .unset, .unset, .unset] [(.double (FP.l2d (own_f6 rr hi lo sv kk)))]))
        refine Go.s (fun kz => XS.dstore X5.here hx rfl (hb hby at_151) rfl (l' := #[.val (.int p1), .val (.int p2), .val (.int p3), .val (.int p4), .val (.int p5), .val (.long lo), .second, .val (.long wd), .second, .val (.long hi), .second, .val (.long kk), .second, .val (.int (p3 &&& (3 : Int32))), .val (.long rr), .second, .val (.int lv), .val (.double (FP.l2d pl)), .second, .val (.long sv), .second, .val (.ref b1), .val (.double (FP.l2d (own_f6 rr hi lo sv kk))), .second, .unset, .unset]) rfl kz) ?_
        show Go p.tables e below P (T5.setTop (mkF m 153 #[.val (.int p1), .val (.int p2), .val (.int p3), .val (.int p4), .val (.int p5), .val (.long lo), .second, .val (.long wd), .second, .val (.long hi), .second, .val (.long kk), .second, .val (.int (p3 &&& (3 : Int32))), .val (.long rr), .second, .val (.int lv), .val (.double (FP.l2d pl)), .second, .val (.long sv), .second, .val (.ref b1), .val (.double (FP.l2d (own_f6 rr hi lo sv kk))), .second, .unset, .unset] []))
        refine Go.s (fun kz => XT.lload X5.here hx rfl (hb hby at_153) rfl kz) ?_
        show Go p.tables e below P (T5.setTop (mkF m 155 #[.val (.int p1), .val (.int p2), .val (.int p3), .val (.int p4), .val (.int p5), .val (.long lo), .second, .val (.long wd), .second, .val (.long hi), .second, .val (.long kk), .second, .val (.int (p3 &&& (3 : Int32))), .val (.long rr), .second, .val (.int lv), .val (.double (FP.l2d pl)), .second, .val (.long sv), .second, .val (.ref b1), .val (.double (FP.l2d (own_f6 rr hi lo sv kk))), .second, .unset, .unset] [(.long wd)]))
        refine Go.s (fun kz => XT.lconst X5.here hx rfl (hb hby at_155) kz) ?_
        show Go p.tables e below P (T5.setTop (mkF m 156 #[.val (.int p1), .val (.int p2), .val (.int p3), .val (.int p4), .val (.int p5), .val (.long lo), .second, .val (.long wd), .second, .val (.long hi), .second, .val (.long kk), .second, .val (.int (p3 &&& (3 : Int32))), .val (.long rr), .second, .val (.int lv), .val (.double (FP.l2d pl)), .second, .val (.long sv), .second, .val (.ref b1), .val (.double (FP.l2d (own_f6 rr hi lo sv kk))), .second, .unset, .unset] [(.long (0 : Int64)), (.long wd)]))
        refine Go.s (fun kz => XT.lcmp X5.here hx rfl (hb hby at_156) rfl kz) ?_
        show Go p.tables e below P (T5.setTop (mkF m 157 #[.val (.int p1), .val (.int p2), .val (.int p3), .val (.int p4), .val (.int p5), .val (.long lo), .second, .val (.long wd), .second, .val (.long hi), .second, .val (.long kk), .second, .val (.int (p3 &&& (3 : Int32))), .val (.long rr), .second, .val (.int lv), .val (.double (FP.l2d pl)), .second, .val (.long sv), .second, .val (.ref b1), .val (.double (FP.l2d (own_f6 rr hi lo sv kk))), .second, .unset, .unset] [(.int (XT.cmpL wd (0 : Int64)))]))
        refine Go.s (fun kz => XS.ifNo X5.here hx rfl (hb hby at_157) rfl (XT.ll_ne_f hc106) kz) ?_
        show Go p.tables e below P (T5.setTop (mkF m 160 #[.val (.int p1), .val (.int p2), .val (.int p3), .val (.int p4), .val (.int p5), .val (.long lo), .second, .val (.long wd), .second, .val (.long hi), .second, .val (.long kk), .second, .val (.int (p3 &&& (3 : Int32))), .val (.long rr), .second, .val (.int lv), .val (.double (FP.l2d pl)), .second, .val (.long sv), .second, .val (.ref b1), .val (.double (FP.l2d (own_f6 rr hi lo sv kk))), .second, .unset, .unset] []))
        refine Go.s (fun kz => XT.lload X5.here hx rfl (hb hby at_160) rfl kz) ?_
        show Go p.tables e below P (T5.setTop (mkF m 162 #[.val (.int p1), .val (.int p2), .val (.int p3), .val (.int p4), .val (.int p5), .val (.long lo), .second, .val (.long wd), .second, .val (.long hi), .second, .val (.long kk), .second, .val (.int (p3 &&& (3 : Int32))), .val (.long rr), .second, .val (.int lv), .val (.double (FP.l2d pl)), .second, .val (.long sv), .second, .val (.ref b1), .val (.double (FP.l2d (own_f6 rr hi lo sv kk))), .second, .unset, .unset] [(.long rr)]))
        refine Go.s (fun kz => XT.lload X5.here hx rfl (hb hby at_162) rfl kz) ?_
        show Go p.tables e below P (T5.setTop (mkF m 164 #[.val (.int p1), .val (.int p2), .val (.int p3), .val (.int p4), .val (.int p5), .val (.long lo), .second, .val (.long wd), .second, .val (.long hi), .second, .val (.long kk), .second, .val (.int (p3 &&& (3 : Int32))), .val (.long rr), .second, .val (.int lv), .val (.double (FP.l2d pl)), .second, .val (.long sv), .second, .val (.ref b1), .val (.double (FP.l2d (own_f6 rr hi lo sv kk))), .second, .unset, .unset] [(.long hi), (.long rr)]))
        refine Go.s (fun kz => XT.lcmp X5.here hx rfl (hb hby at_164) rfl kz) ?_
        show Go p.tables e below P (T5.setTop (mkF m 165 #[.val (.int p1), .val (.int p2), .val (.int p3), .val (.int p4), .val (.int p5), .val (.long lo), .second, .val (.long wd), .second, .val (.long hi), .second, .val (.long kk), .second, .val (.int (p3 &&& (3 : Int32))), .val (.long rr), .second, .val (.int lv), .val (.double (FP.l2d pl)), .second, .val (.long sv), .second, .val (.ref b1), .val (.double (FP.l2d (own_f6 rr hi lo sv kk))), .second, .unset, .unset] [(.int (XT.cmpL rr hi))]))
        by_cases hc165 : rr < hi
        · skip
          refine Go.s (fun kz => XS.ifYes X5.here hx rfl (pc0 := 165) (pc' := 172) rfl (hb hby at_165) rfl (XT.ll_lt_t hc165) (by decide) (by decide) kz) ?_
          show Go p.tables e below P (T5.setTop (mkF m 172 #[.val (.int p1), .val (.int p2), .val (.int p3), .val (.int p4), .val (.int p5), .val (.long lo), .second, .val (.long wd), .second, .val (.long hi), .second, .val (.long kk), .second, .val (.int (p3 &&& (3 : Int32))), .val (.long rr), .second, .val (.int lv), .val (.double (FP.l2d pl)), .second, .val (.long sv), .second, .val (.ref b1), .val (.double (FP.l2d (own_f6 rr hi lo sv kk))), .second, .unset, .unset] []))
          refine Go.s (fun kz => XT.lload X5.here hx rfl (hb hby at_172) rfl kz) ?_
          show Go p.tables e below P (T5.setTop (mkF m 174 #[.val (.int p1), .val (.int p2), .val (.int p3), .val (.int p4), .val (.int p5), .val (.long lo), .second, .val (.long wd), .second, .val (.long hi), .second, .val (.long kk), .second, .val (.int (p3 &&& (3 : Int32))), .val (.long rr), .second, .val (.int lv), .val (.double (FP.l2d pl)), .second, .val (.long sv), .second, .val (.ref b1), .val (.double (FP.l2d (own_f6 rr hi lo sv kk))), .second, .unset, .unset] [(.long kk)]))
          refine Go.s (fun kz => XT.lstore X5.here hx rfl (hb hby at_174) rfl (l' := #[.val (.int p1), .val (.int p2), .val (.int p3), .val (.int p4), .val (.int p5), .val (.long lo), .second, .val (.long wd), .second, .val (.long hi), .second, .val (.long kk), .second, .val (.int (p3 &&& (3 : Int32))), .val (.long rr), .second, .val (.int lv), .val (.double (FP.l2d pl)), .second, .val (.long sv), .second, .val (.ref b1), .val (.double (FP.l2d (own_f6 rr hi lo sv kk))), .second, .val (.long kk), .second]) rfl kz) ?_
          show Go p.tables e below P (T5.setTop (mkF m 176 #[.val (.int p1), .val (.int p2), .val (.int p3), .val (.int p4), .val (.int p5), .val (.long lo), .second, .val (.long wd), .second, .val (.long hi), .second, .val (.long kk), .second, .val (.int (p3 &&& (3 : Int32))), .val (.long rr), .second, .val (.int lv), .val (.double (FP.l2d pl)), .second, .val (.long sv), .second, .val (.ref b1), .val (.double (FP.l2d (own_f6 rr hi lo sv kk))), .second, .val (.long kk), .second] []))
          refine Go.s (fun kz => XS.goto X5.here hx rfl (pc0 := 176) (pc' := 198) rfl (hb hby at_176) (by decide) (by decide) kz) ?_
          show Go p.tables e below P (T5.setTop (mkF m 198 #[.val (.int p1), .val (.int p2), .val (.int p3), .val (.int p4), .val (.int p5), .val (.long lo), .second, .val (.long wd), .second, .val (.long hi), .second, .val (.long kk), .second, .val (.int (p3 &&& (3 : Int32))), .val (.long rr), .second, .val (.int lv), .val (.double (FP.l2d pl)), .second, .val (.long sv), .second, .val (.ref b1), .val (.double (FP.l2d (own_f6 rr hi lo sv kk))), .second, .val (.long kk), .second] []))
          refine Go.s (fun kz => XS.dload X5.here hx rfl (hb hby at_198) rfl kz) ?_
          show Go p.tables e below P (T5.setTop (mkF m 200 #[.val (.int p1), .val (.int p2), .val (.int p3), .val (.int p4), .val (.int p5), .val (.long lo), .second, .val (.long wd), .second, .val (.long hi), .second, .val (.long kk), .second, .val (.int (p3 &&& (3 : Int32))), .val (.long rr), .second, .val (.int lv), .val (.double (FP.l2d pl)), .second, .val (.long sv), .second, .val (.ref b1), .val (.double (FP.l2d (own_f6 rr hi lo sv kk))), .second, .val (.long kk), .second] [(.double (FP.l2d (own_f6 rr hi lo sv kk)))]))
          refine Go.s (fun kz => XT.lload X5.here hx rfl (hb hby at_200) rfl kz) ?_
          show Go p.tables e below P (T5.setTop (mkF m 202 #[.val (.int p1), .val (.int p2), .val (.int p3), .val (.int p4), .val (.int p5), .val (.long lo), .second, .val (.long wd), .second, .val (.long hi), .second, .val (.long kk), .second, .val (.int (p3 &&& (3 : Int32))), .val (.long rr), .second, .val (.int lv), .val (.double (FP.l2d pl)), .second, .val (.long sv), .second, .val (.ref b1), .val (.double (FP.l2d (own_f6 rr hi lo sv kk))), .second, .val (.long kk), .second] [(.long kk), (.double (FP.l2d (own_f6 rr hi lo sv kk)))]))
          refine Go.s (fun kz => XS.l2dS X5.here hx rfl (hb hby at_202) rfl rfl kz) ?_
          show Go p.tables e below P (T5.setTop (mkF m 203 #[.val (.int p1), .val (.int p2), .val (.int p3), .val (.int p4), .val (.int p5), .val (.long lo), .second, .val (.long wd), .second, .val (.long hi), .second, .val (.long kk), .second, .val (.int (p3 &&& (3 : Int32))), .val (.long rr), .second, .val (.int lv), .val (.double (FP.l2d pl)), .second, .val (.long sv), .second, .val (.ref b1), .val (.double (FP.l2d (own_f6 rr hi lo sv kk))), .second, .val (.long kk), .second] [(.double (FP.l2d kk)), (.double (FP.l2d (own_f6 rr hi lo sv kk)))]))
          have eq : (own_f6 rr hi lo sv kk) = kk := own_eA hs rhi hc106 hsv hc165
          have B6 := own_B6 hs
          have B7 := B6
          rw [eq] at B7
          refine Go.s (fun kz => XS.dcmpS X5.here hx rfl (hb hby at_203) rfl (v := XT.cmpL (own_f6 rr hi lo sv kk) kk) (dcmpV_w B6 B7 _) kz) ?_
          show Go p.tables e below P (T5.setTop (mkF m 204 #[.val (.int p1), .val (.int p2), .val (.int p3), .val (.int p4), .val (.int p5), .val (.long lo), .second, .val (.long wd), .second, .val (.long hi), .second, .val (.long kk), .second, .val (.int (p3 &&& (3 : Int32))), .val (.long rr), .second, .val (.int lv), .val (.double (FP.l2d pl)), .second, .val (.long sv), .second, .val (.ref b1), .val (.double (FP.l2d (own_f6 rr hi lo sv kk))), .second, .val (.long kk), .second] [(.int (XT.cmpL (own_f6 rr hi lo sv kk) kk))]))
          refine Go.s (fun kz => XS.ifNo X5.here hx rfl (hb hby at_204) rfl (XT.ll_ne_f eq) kz) ?_
          show Go p.tables e below P (T5.setTop (mkF m 207 #[.val (.int p1), .val (.int p2), .val (.int p3), .val (.int p4), .val (.int p5), .val (.long lo), .second, .val (.long wd), .second, .val (.long hi), .second, .val (.long kk), .second, .val (.int (p3 &&& (3 : Int32))), .val (.long rr), .second, .val (.int lv), .val (.double (FP.l2d pl)), .second, .val (.long sv), .second, .val (.ref b1), .val (.double (FP.l2d (own_f6 rr hi lo sv kk))), .second, .val (.long kk), .second] []))
          refine Go.s (fun kz => XS.iconst X5.here hx rfl (hb hby at_207) kz) ?_
          show Go p.tables e below P (T5.setTop (mkF m 208 #[.val (.int p1), .val (.int p2), .val (.int p3), .val (.int p4), .val (.int p5), .val (.long lo), .second, .val (.long wd), .second, .val (.long hi), .second, .val (.long kk), .second, .val (.int (p3 &&& (3 : Int32))), .val (.long rr), .second, .val (.int lv), .val (.double (FP.l2d pl)), .second, .val (.long sv), .second, .val (.ref b1), .val (.double (FP.l2d (own_f6 rr hi lo sv kk))), .second, .val (.long kk), .second] [(.int (1 : Int32))]))
          refine Go.s (fun kz => XS.goto X5.here hx rfl (pc0 := 208) (pc' := 212) rfl (hb hby at_208) (by decide) (by decide) kz) ?_
          show Go p.tables e below P (T5.setTop (mkF m 212 #[.val (.int p1), .val (.int p2), .val (.int p3), .val (.int p4), .val (.int p5), .val (.long lo), .second, .val (.long wd), .second, .val (.long hi), .second, .val (.long kk), .second, .val (.int (p3 &&& (3 : Int32))), .val (.long rr), .second, .val (.int lv), .val (.double (FP.l2d pl)), .second, .val (.long sv), .second, .val (.ref b1), .val (.double (FP.l2d (own_f6 rr hi lo sv kk))), .second, .val (.long kk), .second] [(.int (1 : Int32))]))
          exact Go.retZ X5 hx hlk hret (by decide) (hb hby at_212) (fun U hU hF => hP U _ _ ⟨rfl, N5⟩ ⟨hF.1, hF.2.1, hF.2.2.mono (by decide) (by decide)⟩)
        · skip
          refine Go.s (fun kz => XS.ifNo X5.here hx rfl (hb hby at_165) rfl (XT.ll_lt_f hc165) kz) ?_
          show Go p.tables e below P (T5.setTop (mkF m 168 #[.val (.int p1), .val (.int p2), .val (.int p3), .val (.int p4), .val (.int p5), .val (.long lo), .second, .val (.long wd), .second, .val (.long hi), .second, .val (.long kk), .second, .val (.int (p3 &&& (3 : Int32))), .val (.long rr), .second, .val (.int lv), .val (.double (FP.l2d pl)), .second, .val (.long sv), .second, .val (.ref b1), .val (.double (FP.l2d (own_f6 rr hi lo sv kk))), .second, .unset, .unset] []))
          refine Go.s (fun kz => XT.lconst X5.here hx rfl (hb hby at_168) kz) ?_
          show Go p.tables e below P (T5.setTop (mkF m 169 #[.val (.int p1), .val (.int p2), .val (.int p3), .val (.int p4), .val (.int p5), .val (.long lo), .second, .val (.long wd), .second, .val (.long hi), .second, .val (.long kk), .second, .val (.int (p3 &&& (3 : Int32))), .val (.long rr), .second, .val (.int lv), .val (.double (FP.l2d pl)), .second, .val (.long sv), .second, .val (.ref b1), .val (.double (FP.l2d (own_f6 rr hi lo sv kk))), .second, .unset, .unset] [(.long (0 : Int64))]))
          refine Go.s (fun kz => XS.goto X5.here hx rfl (pc0 := 169) (pc' := 174) rfl (hb hby at_169) (by decide) (by decide) kz) ?_
          show Go p.tables e below P (T5.setTop (mkF m 174 #[.val (.int p1), .val (.int p2), .val (.int p3), .val (.int p4), .val (.int p5), .val (.long lo), .second, .val (.long wd), .second, .val (.long hi), .second, .val (.long kk), .second, .val (.int (p3 &&& (3 : Int32))), .val (.long rr), .second, .val (.int lv), .val (.double (FP.l2d pl)), .second, .val (.long sv), .second, .val (.ref b1), .val (.double (FP.l2d (own_f6 rr hi lo sv kk))), .second, .unset, .unset] [(.long (0 : Int64))]))
          refine Go.s (fun kz => XT.lstore X5.here hx rfl (hb hby at_174) rfl (l' := #[.val (.int p1), .val (.int p2), .val (.int p3), .val (.int p4), .val (.int p5), .val (.long lo), .second, .val (.long wd), .second, .val (.long hi), .second, .val (.long kk), .second, .val (.int (p3 &&& (3 : Int32))), .val (.long rr), .second, .val (.int lv), .val (.double (FP.l2d pl)), .second, .val (.long sv), .second, .val (.ref b1), .val (.double (FP.l2d (own_f6 rr hi lo sv kk))), .second, .val (.long (0 : Int64)), .second]) rfl kz) ?_
          show Go p.tables e below P (T5.setTop (mkF m 176 #[.val (.int p1), .val (.int p2), .val (.int p3), .val (.int p4), .val (.int p5), .val (.long lo), .second, .val (.long wd), .second, .val (.long hi), .second, .val (.long kk), .second, .val (.int (p3 &&& (3 : Int32))), .val (.long rr), .second, .val (.int lv), .val (.double (FP.l2d pl)), .second, .val (.long sv), .second, .val (.ref b1), .val (.double (FP.l2d (own_f6 rr hi lo sv kk))), .second, .val (.long (0 : Int64)), .second] []))
          refine Go.s (fun kz => XS.goto X5.here hx rfl (pc0 := 176) (pc' := 198) rfl (hb hby at_176) (by decide) (by decide) kz) ?_
          show Go p.tables e below P (T5.setTop (mkF m 198 #[.val (.int p1), .val (.int p2), .val (.int p3), .val (.int p4), .val (.int p5), .val (.long lo), .second, .val (.long wd), .second, .val (.long hi), .second, .val (.long kk), .second, .val (.int (p3 &&& (3 : Int32))), .val (.long rr), .second, .val (.int lv), .val (.double (FP.l2d pl)), .second, .val (.long sv), .second, .val (.ref b1), .val (.double (FP.l2d (own_f6 rr hi lo sv kk))), .second, .val (.long (0 : Int64)), .second] []))
          refine Go.s (fun kz => XS.dload X5.here hx rfl (hb hby at_198) rfl kz) ?_
          show Go p.tables e below P (T5.setTop (mkF m 200 #[.val (.int p1), .val (.int p2), .val (.int p3), .val (.int p4), .val (.int p5), .val (.long lo), .second, .val (.long wd), .second, .val (.long hi), .second, .val (.long kk), .second, .val (.int (p3 &&& (3 : Int32))), .val (.long rr), .second, .val (.int lv), .val (.double (FP.l2d pl)), .second, .val (.long sv), .second, .val (.ref b1), .val (.double (FP.l2d (own_f6 rr hi lo sv kk))), .second, .val (.long (0 : Int64)), .second] [(.double (FP.l2d (own_f6 rr hi lo sv kk)))]))
          refine Go.s (fun kz => XT.lload X5.here hx rfl (hb hby at_200) rfl kz) ?_
          show Go p.tables e below P (T5.setTop (mkF m 202 #[.val (.int p1), .val (.int p2), .val (.int p3), .val (.int p4), .val (.int p5), .val (.long lo), .second, .val (.long wd), .second, .val (.long hi), .second, .val (.long kk), .second, .val (.int (p3 &&& (3 : Int32))), .val (.long rr), .second, .val (.int lv), .val (.double (FP.l2d pl)), .second, .val (.long sv), .second, .val (.ref b1), .val (.double (FP.l2d (own_f6 rr hi lo sv kk))), .second, .val (.long (0 : Int64)), .second] [(.long (0 : Int64)), (.double (FP.l2d (own_f6 rr hi lo sv kk)))]))
          refine Go.s (fun kz => XS.l2dS X5.here hx rfl (hb hby at_202) rfl rfl kz) ?_
          show Go p.tables e below P (T5.setTop (mkF m 203 #[.val (.int p1), .val (.int p2), .val (.int p3), .val (.int p4), .val (.int p5), .val (.long lo), .second, .val (.long wd), .second, .val (.long hi), .second, .val (.long kk), .second, .val (.int (p3 &&& (3 : Int32))), .val (.long rr), .second, .val (.int lv), .val (.double (FP.l2d pl)), .second, .val (.long sv), .second, .val (.ref b1), .val (.double (FP.l2d (own_f6 rr hi lo sv kk))), .second, .val (.long (0 : Int64)), .second] [(.double (FP.l2d (0 : Int64))), (.double (FP.l2d (own_f6 rr hi lo sv kk)))]))
          have eq : (own_f6 rr hi lo sv kk) = (0 : Int64) := own_eA' hc165
          have B6 := own_B6 hs
          have B7 := B6
          rw [eq] at B7
          refine Go.s (fun kz => XS.dcmpS X5.here hx rfl (hb hby at_203) rfl (v := XT.cmpL (own_f6 rr hi lo sv kk) (0 : Int64)) (dcmpV_w B6 B7 _) kz) ?_
          show Go p.tables e below P (T5.setTop (mkF m 204 #[.val (.int p1), .val (.int p2), .val (.int p3), .val (.int p4), .val (.int p5), .val (.long lo), .second, .val (.long wd), .second, .val (.long hi), .second, .val (.long kk), .second, .val (.int (p3 &&& (3 : Int32))), .val (.long rr), .second, .val (.int lv), .val (.double (FP.l2d pl)), .second, .val (.long sv), .second, .val (.ref b1), .val (.double (FP.l2d (own_f6 rr hi lo sv kk))), .second, .val (.long (0 : Int64)), .second] [(.int (XT.cmpL (own_f6 rr hi lo sv kk) (0 : Int64)))]))
          refine Go.s (fun kz => XS.ifNo X5.here hx rfl (hb hby at_204) rfl (XT.ll_ne_f eq) kz) ?_
          show Go p.tables e below P (T5.setTop (mkF m 207 #[.val (.int p1), .val (.int p2), .val (.int p3), .val (.int p4), .val (.int p5), .val (.long lo), .second, .val (.long wd), .second, .val (.long hi), .second, .val (.long kk), .second, .val (.int (p3 &&& (3 : Int32))), .val (.long rr), .second, .val (.int lv), .val (.double (FP.l2d pl)), .second, .val (.long sv), .second, .val (.ref b1), .val (.double (FP.l2d (own_f6 rr hi lo sv kk))), .second, .val (.long (0 : Int64)), .second] []))
          refine Go.s (fun kz => XS.iconst X5.here hx rfl (hb hby at_207) kz) ?_
          show Go p.tables e below P (T5.setTop (mkF m 208 #[.val (.int p1), .val (.int p2), .val (.int p3), .val (.int p4), .val (.int p5), .val (.long lo), .second, .val (.long wd), .second, .val (.long hi), .second, .val (.long kk), .second, .val (.int (p3 &&& (3 : Int32))), .val (.long rr), .second, .val (.int lv), .val (.double (FP.l2d pl)), .second, .val (.long sv), .second, .val (.ref b1), .val (.double (FP.l2d (own_f6 rr hi lo sv kk))), .second, .val (.long (0 : Int64)), .second] [(.int (1 : Int32))]))
          refine Go.s (fun kz => XS.goto X5.here hx rfl (pc0 := 208) (pc' := 212) rfl (hb hby at_208) (by decide) (by decide) kz) ?_
          show Go p.tables e below P (T5.setTop (mkF m 212 #[.val (.int p1), .val (.int p2), .val (.int p3), .val (.int p4), .val (.int p5), .val (.long lo), .second, .val (.long wd), .second, .val (.long hi), .second, .val (.long kk), .second, .val (.int (p3 &&& (3 : Int32))), .val (.long rr), .second, .val (.int lv), .val (.double (FP.l2d pl)), .second, .val (.long sv), .second, .val (.ref b1), .val (.double (FP.l2d (own_f6 rr hi lo sv kk))), .second, .val (.long (0 : Int64)), .second] [(.int (1 : Int32))]))
          exact Go.retZ X5 hx hlk hret (by decide) (hb hby at_212) (fun U hU hF => hP U _ _ ⟨rfl, N5⟩ ⟨hF.1, hF.2.1, hF.2.2.mono (by decide) (by decide)⟩)
      · skip
        refine Go.s (fun kz => XS.ifYes X0.here hx rfl (pc0 := 106) (pc' := 114) rfl (hb hby at_106) rfl (XT.ll_ne_t hc106) (by decide) (by decide) kz) ?_
        show Go p.tables e below P (s₁.setTop (mkF m 114 #[.val (.int p1), .val (.int p2), .val (.int p3), .val (.int p4), .val (.int p5), .val (.long lo), .second, .val (.long wd), .second, .val (.long hi), .second, .val (.long kk), .second, .val (.int (p3 &&& (3 : Int32))), .val (.long rr), .second, .val (.int lv), .val (.double (FP.l2d pl)), .second, .unset, .unset, .unset, .unset, .unset, .unset, .unset] []))
        refine Go.s (fun kz => XT.lload X0.here hx rfl (hb hby at_114) rfl kz) ?_
        show Go p.tables e below P (s₁.setTop (mkF m 116 #[.val (.int p1), .val (.int p2), .val (.int p3), .val (.int p4), .val (.int p5), .val (.long lo), .second, .val (.long wd), .second, .val (.long hi), .second, .val (.long kk), .second, .val (.int (p3 &&& (3 : Int32))), .val (.long rr), .second, .val (.int lv), .val (.double (FP.l2d pl)), .second, .unset, .unset, .unset, .unset, .unset, .unset, .unset] [(.long kk)]))
        refine Go.s (fun kz => XT.lload X0.here hx rfl (hb hby at_116) rfl kz) ?_
        show Go p.tables e below P (s₁.setTop (mkF m 118 #[.val (.int p1), .val (.int p2), .val (.int p3), .val (.int p4), .val (.int p5), .val (.long lo), .second, .val (.long wd), .second, .val (.long hi), .second, .val (.long kk), .second, .val (.int (p3 &&& (3 : Int32))), .val (.long rr), .second, .val (.int lv), .val (.double (FP.l2d pl)), .second, .unset, .unset, .unset, .unset, .unset, .unset, .unset] [(.long wd), (.long kk)]))
        refine Go.s (fun kz => XT.lmul X0.here hx rfl (hb hby at_118) rfl kz) ?_
        show Go p.tables e below P (s₁.setTop (mkF m 119 #[.val (.int p1), .val (.int p2), .val (.int p3), .val (.int p4), .val (.int p5), .val (.long lo), .second, .val (.long wd), .second, .val (.long hi), .second, .val (.long kk), .second, .val (.int (p3 &&& (3 : Int32))), .val (.long rr), .second, .val (.int lv), .val (.double (FP.l2d pl)), .second, .unset, .unset, .unset, .unset, .unset, .unset, .unset] [(.long (kk * wd))]))
        refine (?_ : ∀ sv : Int64, sv = (kk * wd) → Go p.tables e below P (s₁.setTop (mkF m 119 #[.val (.int p1), .val (.int p2), .val (.int p3), .val (.int p4), .val (.int p5), .val (.long lo), .second, .val (.long wd), .second, .val (.long hi), .second, .val (.long kk), .second, .val (.int (p3 &&& (3 : Int32))), .val (.long rr), .second, .val (.int lv), .val (.double (FP.l2d pl)), .second, .unset, .unset, .unset, .unset, .unset, .unset, .unset] [(.long sv)]))) _ rfl
        intro sv hsv
        have hs : own_S rr hi lo sv kk := own_mkB rlo rwd rhi rkk rrr hsv
        refine Go.s (fun kz => XT.lstore X0.here hx rfl (hb hby at_119) rfl (l' := #[.val (.int p1), .val (.int p2), .val (.int p3), .val (.int p4), .val (.int p5), .val (.long lo), .second, .val (.long wd), .second, .val (.long hi), .second, .val (.long kk), .second, .val (.int (p3 &&& (3 : Int32))), .val (.long rr), .second, .val (.int lv), .val (.double (FP.l2d pl)), .second, .val (.long sv), .second, .unset, .unset, .unset, .unset, .unset]) rfl kz) ?_
        show Go p.tables e below P (s₁.setTop (mkF m 121 #[.val (.int p1), .val (.int p2), .val (.int p3), .val (.int p4), .val (.int p5), .val (.long lo), .second, .val (.long wd), .second, .val (.long hi), .second, .val (.long kk), .second, .val (.int (p3 &&& (3 : Int32))), .val (.long rr), .second, .val (.int lv), .val (.double (FP.l2d pl)), .second, .val (.long sv), .second, .unset, .unset, .unset, .unset, .unset] []))
        obtain ⟨T6, H6, X6, e6, E6, A6, D6, U6, st6⟩ := newO X0 hx hZ hown (hw _ (List.mem_of_getElem? (i := 4) rfl)) (hw _ (List.mem_of_getElem? (i := 5) rfl)) (hw _ (List.mem_of_getElem? (i := 6) rfl)) e0 (g := (mkF m 121 #[.val (.int p1), .val (.int p2), .val (.int p3), .val (.int p4), .val (.int p5), .val (.long lo), .second, .val (.long wd), .second, .val (.long hi), .second, .val (.long kk), .second, .val (.int (p3 &&& (3 : Int32))), .val (.long rr), .second, .val (.int lv), .val (.double (FP.l2d pl)), .second, .val (.long sv), .second, .unset, .unset, .unset, .unset, .unset] [])) rfl (hb hby at_121) (by decide) (by decide)
        refine Go.s (fun {t} => st6 t) ?_
        obtain ⟨b6, g6⟩ : ∃ z, z = h0.size := ⟨_, rfl⟩
        rw [← g6] at A6 D6 U6
        rw [← g6]
        have G_b6 : n0 ≤ b6 := Nat.le_trans Z0 (Nat.le_of_eq g6.symm)
        have Zs6 := Nat.le_trans Z0 E6.1
        have Kn6 := Kn.of_new U6
        show Go p.tables e below P (T6.setTop (mkF m 124 #[.val (.int p1), .val (.int p2), .val (.int p3), .val (.int p4), .val (.int p5), .val (.long lo), .second, .val (.long wd), .second, .val (.long hi), .second, .val (.long kk), .second, .val (.int (p3 &&& (3 : Int32))), .val (.long rr), .second, .val (.int lv), .val (.double (FP.l2d pl)), .second, .val (.long sv), .second, .unset, .unset, .unset, .unset, .unset] [(.ref b6)]))
        refine Go.s (fun kz => XS.dup X6.here hx rfl (hb hby at_124) rfl rfl kz) ?_
        show Go p.tables e below P (T6.setTop (mkF m 125 #[.val (.int p1), .val (.int p2), .val (.int p3), .val (.int p4), .val (.int p5), .val (.long lo), .second, .val (.long wd), .second, .val (.long hi), .second, .val (.long kk), .second, .val (.int (p3 &&& (3 : Int32))), .val (.long rr), .second, .val (.int lv), .val (.double (FP.l2d pl)), .second, .val (.long sv), .second, .unset, .unset, .unset, .unset, .unset] [(.ref b6), (.ref b6)]))
        refine Go.s (fun kz => XS.iload X6.here hx rfl (hb hby at_125) rfl kz) ?_
        show Go p.tables e below P (T6.setTop (mkF m 127 #[.val (.int p1), .val (.int p2), .val (.int p3), .val (.int p4), .val (.int p5), .val (.long lo), .second, .val (.long wd), .second, .val (.long hi), .second, .val (.long kk), .second, .val (.int (p3 &&& (3 : Int32))), .val (.long rr), .second, .val (.int lv), .val (.double (FP.l2d pl)), .second, .val (.long sv), .second, .unset, .unset, .unset, .unset, .unset] [(.int lv), (.ref b6), (.ref b6)]))
        refine Go.s (fun kz => XS.dload X6.here hx rfl (hb hby at_127) rfl kz) ?_
        show Go p.tables e below P (T6.setTop (mkF m 129 #[.val (.int p1), .val (.int p2), .val (.int p3), .val (.int p4), .val (.int p5), .val (.long lo), .second, .val (.long wd), .second, .val (.long hi), .second, .val (.long kk), .second, .val (.int (p3 &&& (3 : Int32))), .val (.long rr), .second, .val (.int lv), .val (.double (FP.l2d pl)), .second, .val (.long sv), .second, .unset, .unset, .unset, .unset, .unset] [(.double (FP.l2d pl)), (.int lv), (.ref b6), (.ref b6)]))
        refine Go.s (fun kz => XT.lload X6.here hx rfl (hb hby at_129) rfl kz) ?_
        show Go p.tables e below P (T6.setTop (mkF m 131 #[.val (.int p1), .val (.int p2), .val (.int p3), .val (.int p4), .val (.int p5), .val (.long lo), .second, .val (.long wd), .second, .val (.long hi), .second, .val (.long kk), .second, .val (.int (p3 &&& (3 : Int32))), .val (.long rr), .second, .val (.int lv), .val (.double (FP.l2d pl)), .second, .val (.long sv), .second, .unset, .unset, .unset, .unset, .unset] [(.long sv), (.double (FP.l2d pl)), (.int lv), (.ref b6), (.ref b6)]))
        refine Go.s (fun kz => XS.l2dS X6.here hx rfl (hb hby at_131) rfl rfl kz) ?_
        show Go p.tables e below P (T6.setTop (mkF m 132 #[.val (.int p1), .val (.int p2), .val (.int p3), .val (.int p4), .val (.int p5), .val (.long lo), .second, .val (.long wd), .second, .val (.long hi), .second, .val (.long kk), .second, .val (.int (p3 &&& (3 : Int32))), .val (.long rr), .second, .val (.int lv), .val (.double (FP.l2d pl)), .second, .val (.long sv), .second, .unset, .unset, .unset, .unset, .unset] [(.double (FP.l2d sv)), (.double (FP.l2d pl)), (.int lv), (.ref b6), (.ref b6)]))
        refine Go.s (fun kz => XT.lload X6.here hx rfl (hb hby at_132) rfl kz) ?_
        show Go p.tables e below P (T6.setTop (mkF m 134 #[.val (.int p1), .val (.int p2), .val (.int p3), .val (.int p4), .val (.int p5), .val (.long lo), .second, .val (.long wd), .second, .val (.long hi), .second, .val (.long kk), .second, .val (.int (p3 &&& (3 : Int32))), .val (.long rr), .second, .val (.int lv), .val (.double (FP.l2d pl)), .second, .val (.long sv), .second, .unset, .unset, .unset, .unset, .unset] [(.long lo), (.double (FP.l2d sv)), (.double (FP.l2d pl)), (.int lv), (.ref b6), (.ref b6)]))
        refine Go.s (fun kz => XS.l2dS X6.here hx rfl (hb hby at_134) rfl rfl kz) ?_
        show Go p.tables e below P (T6.setTop (mkF m 135 #[.val (.int p1), .val (.int p2), .val (.int p3), .val (.int p4), .val (.int p5), .val (.long lo), .second, .val (.long wd), .second, .val (.long hi), .second, .val (.long kk), .second, .val (.int (p3 &&& (3 : Int32))), .val (.long rr), .second, .val (.int lv), .val (.double (FP.l2d pl)), .second, .val (.long sv), .second, .unset, .unset, .unset, .unset, .unset] [(.double (FP.l2d lo)), (.double (FP.l2d sv)), (.double (FP.l2d pl)), (.int lv), (.ref b6), (.ref b6)]))
        refine Go.s (fun kz => XT.lload X6.here hx rfl (hb hby at_135) rfl kz) ?_
        show Go p.tables e below P (T6.setTop (mkF m 137 #[.val (.int p1), .val (.int p2), .val (.int p3), .val (.int p4), .val (.int p5), .val (.long lo), .second, .val (.long wd), .second, .val (.long hi), .second, .val (.long kk), .second, .val (.int (p3 &&& (3 : Int32))), .val (.long rr), .second, .val (.int lv), .val (.double (FP.l2d pl)), .second, .val (.long sv), .second, .unset, .unset, .unset, .unset, .unset] [(.long hi), (.double (FP.l2d lo)), (.double (FP.l2d sv)), (.double (FP.l2d pl)), (.int lv), (.ref b6), (.ref b6)]))
        refine Go.s (fun kz => XS.l2dS X6.here hx rfl (hb hby at_137) rfl rfl kz) ?_
        show Go p.tables e below P (T6.setTop (mkF m 138 #[.val (.int p1), .val (.int p2), .val (.int p3), .val (.int p4), .val (.int p5), .val (.long lo), .second, .val (.long wd), .second, .val (.long hi), .second, .val (.long kk), .second, .val (.int (p3 &&& (3 : Int32))), .val (.long rr), .second, .val (.int lv), .val (.double (FP.l2d pl)), .second, .val (.long sv), .second, .unset, .unset, .unset, .unset, .unset] [(.double (FP.l2d hi)), (.double (FP.l2d lo)), (.double (FP.l2d sv)), (.double (FP.l2d pl)), (.int lv), (.ref b6), (.ref b6)]))
        obtain ⟨v7, T7, L7, X7, Q7, st7⟩ := Con.special (own_rm1 l Z a0 hw [] b6 lv pl sv lo hi H6 n0 Zs6 A6 Kn6 G_b6  hlv (own_p1 rpl) (own_p2 rpl) (own_Ssv hs) (own_c2 hs) (own_Slo hs) (own_c3 hs) (own_Shi hs) (own_c4 hs)) rfl X6 hx hZ (W := 1) hown (hw _ (List.mem_of_getElem? (i := 7) rfl)) (hw _ (List.mem_of_getElem? (i := 8) rfl)) (hw _ (List.mem_of_getElem? (i := 6) rfl)) (hw _ (List.mem_of_getElem? (i := 9) rfl)) (by decide) (by decide) (by decide) (by decide) (by decide) e6 (g := (mkF m 138 #[.val (.int p1), .val (.int p2), .val (.int p3), .val (.int p4), .val (.int p5), .val (.long lo), .second, .val (.long wd), .second, .val (.long hi), .second, .val (.long kk), .second, .val (.int (p3 &&& (3 : Int32))), .val (.long rr), .second, .val (.int lv), .val (.double (FP.l2d pl)), .second, .val (.long sv), .second, .unset, .unset, .unset, .unset, .unset] [(.double (FP.l2d hi)), (.double (FP.l2d lo)), (.double (FP.l2d sv)), (.double (FP.l2d pl)), (.int lv), (.ref b6), (.ref b6)])) rfl (by rw [hml]; rfl) (argsL := [(.int lv), (.double (FP.l2d pl)), (.double (FP.l2d sv)), (.double (FP.l2d lo)), (.double (FP.l2d hi))]) (rest := [(.ref b6)]) rfl (lenOf own_pd_2 rfl) rfl (by show 2 * 0 + _ ≤ _; exact Nat.le_of_eq rfl) (hb hby at_138)
        obtain ⟨H7, e7⟩ : ∃ z, T7.heap = z := ⟨_, rfl⟩
        rw [e7] at Q7
        obtain ⟨rfl, Nq7, Kq7, Fq7_high, Fq7_low, Fq7_saved⟩ := Q7
        have N7 := Fr.app N0 Nq7
        have Zs7 := Nat.le_trans Zs6 Kq7.1
        have f8 := Exa.keep A6 Kq7
        have f9 := Kn.keep Kn6 Kq7
        refine Go.s (fun {t} => st7) ?_
        show Go p.tables e below P (T7.setTop (mkF m 141 #[.val (.int p1), .val (.int p2), .val (.int p3), .val (.int p4), .val (.int p5), .val (.long lo), .second, .val (.long wd), .second, .val (.long hi), .second, .val (.long kk), .second, .val (.int (p3 &&& (3 : Int32))), .val (.long rr), .second, .val (.int lv), .val (.double (FP.l2d pl)), .second, .val (.long sv), .second, .unset, .unset, .unset, .unset, .unset] [(.ref b6)]))
        refine Go.s (fun kz => XS.astore X7.here hx rfl (hb hby at_141) rfl rfl (l' := #[.val (.int p1), .val (.int p2), .val (.int p3), .val (.int p4), .val (.int p5), .val (.long lo), .second, .val (.long wd), .second, .val (.long hi), .second, .val (.long kk), .second, .val (.int (p3 &&& (3 : Int32))), .val (.long rr), .second, .val (.int lv), .val (.double (FP.l2d pl)), .second, .val (.long sv), .second, .val (.ref b6), .unset, .unset, .unset, .unset]) rfl kz) ?_
        show Go p.tables e below P (T7.setTop (mkF m 143 #[.val (.int p1), .val (.int p2), .val (.int p3), .val (.int p4), .val (.int p5), .val (.long lo), .second, .val (.long wd), .second, .val (.long hi), .second, .val (.long kk), .second, .val (.int (p3 &&& (3 : Int32))), .val (.long rr), .second, .val (.int lv), .val (.double (FP.l2d pl)), .second, .val (.long sv), .second, .val (.ref b6), .unset, .unset, .unset, .unset] []))
        refine Go.s (fun kz => XS.aload X7.here hx rfl (hb hby at_143) rfl rfl kz) ?_
        show Go p.tables e below P (T7.setTop (mkF m 145 #[.val (.int p1), .val (.int p2), .val (.int p3), .val (.int p4), .val (.int p5), .val (.long lo), .second, .val (.long wd), .second, .val (.long hi), .second, .val (.long kk), .second, .val (.int (p3 &&& (3 : Int32))), .val (.long rr), .second, .val (.int lv), .val (.double (FP.l2d pl)), .second, .val (.long sv), .second, .val (.ref b6), .unset, .unset, .unset, .unset] [(.ref b6)]))
        refine Go.s (fun kz => XT.lload X7.here hx rfl (hb hby at_145) rfl kz) ?_
        show Go p.tables e below P (T7.setTop (mkF m 147 #[.val (.int p1), .val (.int p2), .val (.int p3), .val (.int p4), .val (.int p5), .val (.long lo), .second, .val (.long wd), .second, .val (.long hi), .second, .val (.long kk), .second, .val (.int (p3 &&& (3 : Int32))), .val (.long rr), .second, .val (.int lv), .val (.double (FP.l2d pl)), .second, .val (.long sv), .second, .val (.ref b6), .unset, .unset, .unset, .unset] [(.long rr), (.ref b6)]))
        refine Go.s (fun kz => XS.l2dS X7.here hx rfl (hb hby at_147) rfl rfl kz) ?_
        show Go p.tables e below P (T7.setTop (mkF m 148 #[.val (.int p1), .val (.int p2), .val (.int p3), .val (.int p4), .val (.int p5), .val (.long lo), .second, .val (.long wd), .second, .val (.long hi), .second, .val (.long kk), .second, .val (.int (p3 &&& (3 : Int32))), .val (.long rr), .second, .val (.int lv), .val (.double (FP.l2d pl)), .second, .val (.long sv), .second, .val (.ref b6), .unset, .unset, .unset, .unset] [(.double (FP.l2d rr)), (.ref b6)]))
        obtain ⟨v10, T10, L10, X10, Q10, st10⟩ := Con.virtual (own_rm6 l Z a0 hw [] b6 rr hi lo sv H7 n0 Zs7 Fq7_high Fq7_low Fq7_saved kk hs) X7 hx hZ (W := 0) hown (hw _ (List.mem_of_getElem? (i := 37) rfl)) (hw _ (List.mem_of_getElem? (i := 38) rfl)) (hw _ (List.mem_of_getElem? (i := 40) rfl)) (hw _ (List.mem_of_getElem? (i := 39) rfl)) (hw _ (List.mem_of_getElem? (i := 6) rfl)) (hw _ (List.mem_of_getElem? (i := 41) rfl)) (by decide) (by decide) (by decide) (by decide) (by decide) e7 (g := (mkF m 148 #[.val (.int p1), .val (.int p2), .val (.int p3), .val (.int p4), .val (.int p5), .val (.long lo), .second, .val (.long wd), .second, .val (.long hi), .second, .val (.long kk), .second, .val (.int (p3 &&& (3 : Int32))), .val (.long rr), .second, .val (.int lv), .val (.double (FP.l2d pl)), .second, .val (.long sv), .second, .val (.ref b6), .unset, .unset, .unset, .unset] [(.double (FP.l2d rr)), (.ref b6)])) rfl (by rw [hml]; rfl) f8 (argsL := [(.double (FP.l2d rr))]) (rest := []) rfl (lenOf own_pd_3 rfl) rfl (by show 2 * 0 + _ ≤ _; exact Nat.le_of_eq rfl) (hb hby at_148)
        obtain ⟨rfl, Nq10, e10⟩ := Q10
        have N10 := Fr.app N7 Nq10
        refine Go.s (fun {t} => st10) ?_
        show Go p.tables e below P (T10.setTop (mkF m 151 #[.val (.int p1), .val (.int p2), .val (.int p3), .val (.int p4), .val (.int p5), .val (.long lo), .second, .val (.long wd), .second, .val (.long hi), .second, .val (.long kk), .second, .val (.int (p3 &&& (3 : Int32))), .val (.long rr), .second, .val (.int lv), .val (.double (FP.l2d pl)), .second, .val (.long sv), .second, .val (.ref b6), .unset, .unset, .unset, .unset] [(.double (FP.l2d (own_f6 rr hi lo sv kk)))]))
        refine Go.s (fun kz => XS.dstore X10.here hx rfl (hb hby at_151) rfl (l' := #[.val (.int p1), .val (.int p2), .val (.int p3), .val (.int p4), .val (.int p5), .val (.long lo), .second, .val (.long wd), .second, .val (.long hi), .second, .val (.long kk), .second, .val (.int (p3 &&& (3 : Int32))), .val (.long rr), .second, .val (.int lv), .val (.double (FP.l2d pl)), .second, .val (.long sv), .second, .val (.ref b6), .val (.double (FP.l2d (own_f6 rr hi lo sv kk))), .second, .unset, .unset]) rfl kz) ?_
        show Go p.tables e below P (T10.setTop (mkF m 153 #[.val (.int p1), .val (.int p2), .val (.int p3), .val (.int p4), .val (.int p5), .val (.long lo), .second, .val (.long wd), .second, .val (.long hi), .second, .val (.long kk), .second, .val (.int (p3 &&& (3 : Int32))), .val (.long rr), .second, .val (.int lv), .val (.double (FP.l2d pl)), .second, .val (.long sv), .second, .val (.ref b6), .val (.double (FP.l2d (own_f6 rr hi lo sv kk))), .second, .unset, .unset] []))
        refine Go.s (fun kz => XT.lload X10.here hx rfl (hb hby at_153) rfl kz) ?_
        show Go p.tables e below P (T10.setTop (mkF m 155 #[.val (.int p1), .val (.int p2), .val (.int p3), .val (.int p4), .val (.int p5), .val (.long lo), .second, .val (.long wd), .second, .val (.long hi), .second, .val (.long kk), .second, .val (.int (p3 &&& (3 : Int32))), .val (.long rr), .second, .val (.int lv), .val (.double (FP.l2d pl)), .second, .val (.long sv), .second, .val (.ref b6), .val (.double (FP.l2d (own_f6 rr hi lo sv kk))), .second, .unset, .unset] [(.long wd)]))
        refine Go.s (fun kz => XT.lconst X10.here hx rfl (hb hby at_155) kz) ?_
        show Go p.tables e below P (T10.setTop (mkF m 156 #[.val (.int p1), .val (.int p2), .val (.int p3), .val (.int p4), .val (.int p5), .val (.long lo), .second, .val (.long wd), .second, .val (.long hi), .second, .val (.long kk), .second, .val (.int (p3 &&& (3 : Int32))), .val (.long rr), .second, .val (.int lv), .val (.double (FP.l2d pl)), .second, .val (.long sv), .second, .val (.ref b6), .val (.double (FP.l2d (own_f6 rr hi lo sv kk))), .second, .unset, .unset] [(.long (0 : Int64)), (.long wd)]))
        refine Go.s (fun kz => XT.lcmp X10.here hx rfl (hb hby at_156) rfl kz) ?_
        show Go p.tables e below P (T10.setTop (mkF m 157 #[.val (.int p1), .val (.int p2), .val (.int p3), .val (.int p4), .val (.int p5), .val (.long lo), .second, .val (.long wd), .second, .val (.long hi), .second, .val (.long kk), .second, .val (.int (p3 &&& (3 : Int32))), .val (.long rr), .second, .val (.int lv), .val (.double (FP.l2d pl)), .second, .val (.long sv), .second, .val (.ref b6), .val (.double (FP.l2d (own_f6 rr hi lo sv kk))), .second, .unset, .unset] [(.int (XT.cmpL wd (0 : Int64)))]))
        refine Go.s (fun kz => XS.ifYes X10.here hx rfl (pc0 := 157) (pc' := 179) rfl (hb hby at_157) rfl (XT.ll_ne_t hc106) (by decide) (by decide) kz) ?_
        show Go p.tables e below P (T10.setTop (mkF m 179 #[.val (.int p1), .val (.int p2), .val (.int p3), .val (.int p4), .val (.int p5), .val (.long lo), .second, .val (.long wd), .second, .val (.long hi), .second, .val (.long kk), .second, .val (.int (p3 &&& (3 : Int32))), .val (.long rr), .second, .val (.int lv), .val (.double (FP.l2d pl)), .second, .val (.long sv), .second, .val (.ref b6), .val (.double (FP.l2d (own_f6 rr hi lo sv kk))), .second, .unset, .unset] []))
        refine Go.s (fun kz => XT.lload X10.here hx rfl (hb hby at_179) rfl kz) ?_
        show Go p.tables e below P (T10.setTop (mkF m 181 #[.val (.int p1), .val (.int p2), .val (.int p3), .val (.int p4), .val (.int p5), .val (.long lo), .second, .val (.long wd), .second, .val (.long hi), .second, .val (.long kk), .second, .val (.int (p3 &&& (3 : Int32))), .val (.long rr), .second, .val (.int lv), .val (.double (FP.l2d pl)), .second, .val (.long sv), .second, .val (.ref b6), .val (.double (FP.l2d (own_f6 rr hi lo sv kk))), .second, .unset, .unset] [(.long kk)]))
        refine Go.s (fun kz => XT.lconst X10.here hx rfl (hb hby at_181) kz) ?_
        show Go p.tables e below P (T10.setTop (mkF m 182 #[.val (.int p1), .val (.int p2), .val (.int p3), .val (.int p4), .val (.int p5), .val (.long lo), .second, .val (.long wd), .second, .val (.long hi), .second, .val (.long kk), .second, .val (.int (p3 &&& (3 : Int32))), .val (.long rr), .second, .val (.int lv), .val (.double (FP.l2d pl)), .second, .val (.long sv), .second, .val (.ref b6), .val (.double (FP.l2d (own_f6 rr hi lo sv kk))), .second, .unset, .unset] [(.long (0 : Int64)), (.long kk)]))
        refine Go.s (fun kz => XT.lload X10.here hx rfl (hb hby at_182) rfl kz) ?_
        show Go p.tables e below P (T10.setTop (mkF m 184 #[.val (.int p1), .val (.int p2), .val (.int p3), .val (.int p4), .val (.int p5), .val (.long lo), .second, .val (.long wd), .second, .val (.long hi), .second, .val (.long kk), .second, .val (.int (p3 &&& (3 : Int32))), .val (.long rr), .second, .val (.int lv), .val (.double (FP.l2d pl)), .second, .val (.long sv), .second, .val (.ref b6), .val (.double (FP.l2d (own_f6 rr hi lo sv kk))), .second, .unset, .unset] [(.long hi), (.long (0 : Int64)), (.long kk)]))
        refine Go.s (fun kz => XT.lload X10.here hx rfl (hb hby at_184) rfl kz) ?_
        show Go p.tables e below P (T10.setTop (mkF m 186 #[.val (.int p1), .val (.int p2), .val (.int p3), .val (.int p4), .val (.int p5), .val (.long lo), .second, .val (.long wd), .second, .val (.long hi), .second, .val (.long kk), .second, .val (.int (p3 &&& (3 : Int32))), .val (.long rr), .second, .val (.int lv), .val (.double (FP.l2d pl)), .second, .val (.long sv), .second, .val (.ref b6), .val (.double (FP.l2d (own_f6 rr hi lo sv kk))), .second, .unset, .unset] [(.long rr), (.long hi), (.long (0 : Int64)), (.long kk)]))
        refine Go.s (fun kz => XT.lsub X10.here hx rfl (hb hby at_186) rfl kz) ?_
        show Go p.tables e below P (T10.setTop (mkF m 187 #[.val (.int p1), .val (.int p2), .val (.int p3), .val (.int p4), .val (.int p5), .val (.long lo), .second, .val (.long wd), .second, .val (.long hi), .second, .val (.long kk), .second, .val (.int (p3 &&& (3 : Int32))), .val (.long rr), .second, .val (.int lv), .val (.double (FP.l2d pl)), .second, .val (.long sv), .second, .val (.ref b6), .val (.double (FP.l2d (own_f6 rr hi lo sv kk))), .second, .unset, .unset] [(.long (hi - rr)), (.long (0 : Int64)), (.long kk)]))
        refine Go.s (fun kz => XT.lload X10.here hx rfl (hb hby at_187) rfl kz) ?_
        show Go p.tables e below P (T10.setTop (mkF m 189 #[.val (.int p1), .val (.int p2), .val (.int p3), .val (.int p4), .val (.int p5), .val (.long lo), .second, .val (.long wd), .second, .val (.long hi), .second, .val (.long kk), .second, .val (.int (p3 &&& (3 : Int32))), .val (.long rr), .second, .val (.int lv), .val (.double (FP.l2d pl)), .second, .val (.long sv), .second, .val (.ref b6), .val (.double (FP.l2d (own_f6 rr hi lo sv kk))), .second, .unset, .unset] [(.long wd), (.long (hi - rr)), (.long (0 : Int64)), (.long kk)]))
        obtain ⟨v11, T11, L11, X11, Q11, st11⟩ := Con.static (own_rm7 l Z a0 hw [] (hi - rr) wd H7 n0 Zs7  ) X10 hx hZ (W := 4) hown (hw _ (List.mem_of_getElem? (i := 42) rfl)) (hw _ (List.mem_of_getElem? (i := 43) rfl)) (hw _ (List.mem_of_getElem? (i := 44) rfl)) (hw _ (List.mem_of_getElem? (i := 45) rfl)) (by decide) (by decide) (by decide) (by decide) (by decide) e10 (g := (mkF m 189 #[.val (.int p1), .val (.int p2), .val (.int p3), .val (.int p4), .val (.int p5), .val (.long lo), .second, .val (.long wd), .second, .val (.long hi), .second, .val (.long kk), .second, .val (.int (p3 &&& (3 : Int32))), .val (.long rr), .second, .val (.int lv), .val (.double (FP.l2d pl)), .second, .val (.long sv), .second, .val (.ref b6), .val (.double (FP.l2d (own_f6 rr hi lo sv kk))), .second, .unset, .unset] [(.long wd), (.long (hi - rr)), (.long (0 : Int64)), (.long kk)])) rfl (by rw [hml]; rfl) (argsL := [(.long (hi - rr)), (.long wd)]) (rest := [(.long (0 : Int64)), (.long kk)]) rfl (lenOf own_pd_4 rfl) rfl (by show 2 * 0 + _ ≤ _; exact Nat.le_of_eq rfl) (hb hby at_189)
        obtain ⟨rfl, Nq11, e11⟩ := Q11
        have N11 := Fr.app N10 Nq11
        refine Go.s (fun {t} => st11) ?_
        show Go p.tables e below P (T11.setTop (mkF m 192 #[.val (.int p1), .val (.int p2), .val (.int p3), .val (.int p4), .val (.int p5), .val (.long lo), .second, .val (.long wd), .second, .val (.long hi), .second, .val (.long kk), .second, .val (.int (p3 &&& (3 : Int32))), .val (.long rr), .second, .val (.int lv), .val (.double (FP.l2d pl)), .second, .val (.long sv), .second, .val (.ref b6), .val (.double (FP.l2d (own_f6 rr hi lo sv kk))), .second, .unset, .unset] [(.long (own_f7 (hi - rr) wd)), (.long (0 : Int64)), (.long kk)]))
        obtain ⟨v12, T12, L12, X12, Q12, st12⟩ := Con.static (own_rm8 l Z a0 hw [] (0 : Int64) (own_f7 (hi - rr) wd) H7 n0 Zs7  ) X11 hx hZ (W := 2) hown (hw _ (List.mem_of_getElem? (i := 46) rfl)) (hw _ (List.mem_of_getElem? (i := 47) rfl)) (hw _ (List.mem_of_getElem? (i := 44) rfl)) (hw _ (List.mem_of_getElem? (i := 48) rfl)) (by decide) (by decide) (by decide) (by decide) (by decide) e11 (g := (mkF m 192 #[.val (.int p1), .val (.int p2), .val (.int p3), .val (.int p4), .val (.int p5), .val (.long lo), .second, .val (.long wd), .second, .val (.long hi), .second, .val (.long kk), .second, .val (.int (p3 &&& (3 : Int32))), .val (.long rr), .second, .val (.int lv), .val (.double (FP.l2d pl)), .second, .val (.long sv), .second, .val (.ref b6), .val (.double (FP.l2d (own_f6 rr hi lo sv kk))), .second, .unset, .unset] [(.long (own_f7 (hi - rr) wd)), (.long (0 : Int64)), (.long kk)])) rfl (by rw [hml]; rfl) (argsL := [(.long (0 : Int64)), (.long (own_f7 (hi - rr) wd))]) (rest := [(.long kk)]) rfl (lenOf own_pd_4 rfl) rfl (by show 2 * 0 + _ ≤ _; exact Nat.le_of_eq rfl) (hb hby at_192)
        obtain ⟨rfl, Nq12, e12⟩ := Q12
        have N12 := Fr.app N11 Nq12
        refine Go.s (fun {t} => st12) ?_
        show Go p.tables e below P (T12.setTop (mkF m 195 #[.val (.int p1), .val (.int p2), .val (.int p3), .val (.int p4), .val (.int p5), .val (.long lo), .second, .val (.long wd), .second, .val (.long hi), .second, .val (.long kk), .second, .val (.int (p3 &&& (3 : Int32))), .val (.long rr), .second, .val (.int lv), .val (.double (FP.l2d pl)), .second, .val (.long sv), .second, .val (.ref b6), .val (.double (FP.l2d (own_f6 rr hi lo sv kk))), .second, .unset, .unset] [(.long (own_f8 (0 : Int64) (own_f7 (hi - rr) wd))), (.long kk)]))
        refine Go.s (fun kz => XT.lmul X12.here hx rfl (hb hby at_195) rfl kz) ?_
        show Go p.tables e below P (T12.setTop (mkF m 196 #[.val (.int p1), .val (.int p2), .val (.int p3), .val (.int p4), .val (.int p5), .val (.long lo), .second, .val (.long wd), .second, .val (.long hi), .second, .val (.long kk), .second, .val (.int (p3 &&& (3 : Int32))), .val (.long rr), .second, .val (.int lv), .val (.double (FP.l2d pl)), .second, .val (.long sv), .second, .val (.ref b6), .val (.double (FP.l2d (own_f6 rr hi lo sv kk))), .second, .unset, .unset] [(.long (kk * (own_f8 (0 : Int64) (own_f7 (hi - rr) wd))))]))
        refine Go.s (fun kz => XT.lstore X12.here hx rfl (hb hby at_196) rfl (l' := #[.val (.int p1), .val (.int p2), .val (.int p3), .val (.int p4), .val (.int p5), .val (.long lo), .second, .val (.long wd), .second, .val (.long hi), .second, .val (.long kk), .second, .val (.int (p3 &&& (3 : Int32))), .val (.long rr), .second, .val (.int lv), .val (.double (FP.l2d pl)), .second, .val (.long sv), .second, .val (.ref b6), .val (.double (FP.l2d (own_f6 rr hi lo sv kk))), .second, .val (.long (kk * (own_f8 (0 : Int64) (own_f7 (hi - rr) wd)))), .second]) rfl kz) ?_
        show Go p.tables e below P (T12.setTop (mkF m 198 #[.val (.int p1), .val (.int p2), .val (.int p3), .val (.int p4), .val (.int p5), .val (.long lo), .second, .val (.long wd), .second, .val (.long hi), .second, .val (.long kk), .second, .val (.int (p3 &&& (3 : Int32))), .val (.long rr), .second, .val (.int lv), .val (.double (FP.l2d pl)), .second, .val (.long sv), .second, .val (.ref b6), .val (.double (FP.l2d (own_f6 rr hi lo sv kk))), .second, .val (.long (kk * (own_f8 (0 : Int64) (own_f7 (hi - rr) wd)))), .second] []))
        refine Go.s (fun kz => XS.dload X12.here hx rfl (hb hby at_198) rfl kz) ?_
        show Go p.tables e below P (T12.setTop (mkF m 200 #[.val (.int p1), .val (.int p2), .val (.int p3), .val (.int p4), .val (.int p5), .val (.long lo), .second, .val (.long wd), .second, .val (.long hi), .second, .val (.long kk), .second, .val (.int (p3 &&& (3 : Int32))), .val (.long rr), .second, .val (.int lv), .val (.double (FP.l2d pl)), .second, .val (.long sv), .second, .val (.ref b6), .val (.double (FP.l2d (own_f6 rr hi lo sv kk))), .second, .val (.long (kk * (own_f8 (0 : Int64) (own_f7 (hi - rr) wd)))), .second] [(.double (FP.l2d (own_f6 rr hi lo sv kk)))]))
        refine Go.s (fun kz => XT.lload X12.here hx rfl (hb hby at_200) rfl kz) ?_
        show Go p.tables e below P (T12.setTop (mkF m 202 #[.val (.int p1), .val (.int p2), .val (.int p3), .val (.int p4), .val (.int p5), .val (.long lo), .second, .val (.long wd), .second, .val (.long hi), .second, .val (.long kk), .second, .val (.int (p3 &&& (3 : Int32))), .val (.long rr), .second, .val (.int lv), .val (.double (FP.l2d pl)), .second, .val (.long sv), .second, .val (.ref b6), .val (.double (FP.l2d (own_f6 rr hi lo sv kk))), .second, .val (.long (kk * (own_f8 (0 : Int64) (own_f7 (hi - rr) wd)))), .second] [(.long (kk * (own_f8 (0 : Int64) (own_f7 (hi - rr) wd)))), (.double (FP.l2d (own_f6 rr hi lo sv kk)))]))
        refine Go.s (fun kz => XS.l2dS X12.here hx rfl (hb hby at_202) rfl rfl kz) ?_
        show Go p.tables e below P (T12.setTop (mkF m 203 #[.val (.int p1), .val (.int p2), .val (.int p3), .val (.int p4), .val (.int p5), .val (.long lo), .second, .val (.long wd), .second, .val (.long hi), .second, .val (.long kk), .second, .val (.int (p3 &&& (3 : Int32))), .val (.long rr), .second, .val (.int lv), .val (.double (FP.l2d pl)), .second, .val (.long sv), .second, .val (.ref b6), .val (.double (FP.l2d (own_f6 rr hi lo sv kk))), .second, .val (.long (kk * (own_f8 (0 : Int64) (own_f7 (hi - rr) wd)))), .second] [(.double (FP.l2d (kk * (own_f8 (0 : Int64) (own_f7 (hi - rr) wd))))), (.double (FP.l2d (own_f6 rr hi lo sv kk)))]))
        have eq : (own_f6 rr hi lo sv kk) = (kk * (own_f8 (0 : Int64) (own_f7 (hi - rr) wd))) := own_eB hs rhi rwd hsv
        have B6 := own_B6 hs
        have B7 := B6
        rw [eq] at B7
        refine Go.s (fun kz => XS.dcmpS X12.here hx rfl (hb hby at_203) rfl (v := XT.cmpL (own_f6 rr hi lo sv kk) (kk * (own_f8 (0 : Int64) (own_f7 (hi - rr) wd)))) (dcmpV_w B6 B7 _) kz) ?_
        show Go p.tables e below P (T12.setTop (mkF m 204 #[.val (.int p1), .val (.int p2), .val (.int p3), .val (.int p4), .val (.int p5), .val (.long lo), .second, .val (.long wd), .second, .val (.long hi), .second, .val (.long kk), .second, .val (.int (p3 &&& (3 : Int32))), .val (.long rr), .second, .val (.int lv), .val (.double (FP.l2d pl)), .second, .val (.long sv), .second, .val (.ref b6), .val (.double (FP.l2d (own_f6 rr hi lo sv kk))), .second, .val (.long (kk * (own_f8 (0 : Int64) (own_f7 (hi - rr) wd)))), .second] [(.int (XT.cmpL (own_f6 rr hi lo sv kk) (kk * (own_f8 (0 : Int64) (own_f7 (hi - rr) wd)))))]))
        refine Go.s (fun kz => XS.ifNo X12.here hx rfl (hb hby at_204) rfl (XT.ll_ne_f eq) kz) ?_
        show Go p.tables e below P (T12.setTop (mkF m 207 #[.val (.int p1), .val (.int p2), .val (.int p3), .val (.int p4), .val (.int p5), .val (.long lo), .second, .val (.long wd), .second, .val (.long hi), .second, .val (.long kk), .second, .val (.int (p3 &&& (3 : Int32))), .val (.long rr), .second, .val (.int lv), .val (.double (FP.l2d pl)), .second, .val (.long sv), .second, .val (.ref b6), .val (.double (FP.l2d (own_f6 rr hi lo sv kk))), .second, .val (.long (kk * (own_f8 (0 : Int64) (own_f7 (hi - rr) wd)))), .second] []))
        refine Go.s (fun kz => XS.iconst X12.here hx rfl (hb hby at_207) kz) ?_
        show Go p.tables e below P (T12.setTop (mkF m 208 #[.val (.int p1), .val (.int p2), .val (.int p3), .val (.int p4), .val (.int p5), .val (.long lo), .second, .val (.long wd), .second, .val (.long hi), .second, .val (.long kk), .second, .val (.int (p3 &&& (3 : Int32))), .val (.long rr), .second, .val (.int lv), .val (.double (FP.l2d pl)), .second, .val (.long sv), .second, .val (.ref b6), .val (.double (FP.l2d (own_f6 rr hi lo sv kk))), .second, .val (.long (kk * (own_f8 (0 : Int64) (own_f7 (hi - rr) wd)))), .second] [(.int (1 : Int32))]))
        refine Go.s (fun kz => XS.goto X12.here hx rfl (pc0 := 208) (pc' := 212) rfl (hb hby at_208) (by decide) (by decide) kz) ?_
        show Go p.tables e below P (T12.setTop (mkF m 212 #[.val (.int p1), .val (.int p2), .val (.int p3), .val (.int p4), .val (.int p5), .val (.long lo), .second, .val (.long wd), .second, .val (.long hi), .second, .val (.long kk), .second, .val (.int (p3 &&& (3 : Int32))), .val (.long rr), .second, .val (.int lv), .val (.double (FP.l2d pl)), .second, .val (.long sv), .second, .val (.ref b6), .val (.double (FP.l2d (own_f6 rr hi lo sv kk))), .second, .val (.long (kk * (own_f8 (0 : Int64) (own_f7 (hi - rr) wd)))), .second] [(.int (1 : Int32))]))
        exact Go.retZ X12 hx hlk hret (by decide) (hb hby at_212) (fun U hU hF => hP U _ _ ⟨rfl, N12⟩ ⟨hF.1, hF.2.1, hF.2.2.mono (by decide) (by decide)⟩)
    by_cases hc49 : (p3 &&& (3 : Int32)) = 0
    · skip
      refine Go.s (fun kz => XS.ifNo X0.here hx rfl (hb hby at_49) rfl (XT.i0_ne_f hc49) kz) ?_
      show Go p.tables e below P (s₁.setTop (mkF m 52 #[.val (.int p1), .val (.int p2), .val (.int p3), .val (.int p4), .val (.int p5), .val (.long lo), .second, .val (.long wd), .second, .val (.long hi), .second, .val (.long kk), .second, .val (.int (p3 &&& (3 : Int32))), .unset, .unset, .unset, .unset, .unset, .unset, .unset, .unset, .unset, .unset, .unset, .unset] []))
      refine Go.s (fun kz => XT.lload X0.here hx rfl (hb hby at_52) rfl kz) ?_
      show Go p.tables e below P (s₁.setTop (mkF m 54 #[.val (.int p1), .val (.int p2), .val (.int p3), .val (.int p4), .val (.int p5), .val (.long lo), .second, .val (.long wd), .second, .val (.long hi), .second, .val (.long kk), .second, .val (.int (p3 &&& (3 : Int32))), .unset, .unset, .unset, .unset, .unset, .unset, .unset, .unset, .unset, .unset, .unset, .unset] [(.long lo)]))
      refine Go.s (fun kz => XT.lstore X0.here hx rfl (hb hby at_54) rfl (l' := #[.val (.int p1), .val (.int p2), .val (.int p3), .val (.int p4), .val (.int p5), .val (.long lo), .second, .val (.long wd), .second, .val (.long hi), .second, .val (.long kk), .second, .val (.int (p3 &&& (3 : Int32))), .val (.long lo), .second, .unset, .unset, .unset, .unset, .unset, .unset, .unset, .unset, .unset, .unset]) rfl kz) ?_
      show Go p.tables e below P (s₁.setTop (mkF m 56 #[.val (.int p1), .val (.int p2), .val (.int p3), .val (.int p4), .val (.int p5), .val (.long lo), .second, .val (.long wd), .second, .val (.long hi), .second, .val (.long kk), .second, .val (.int (p3 &&& (3 : Int32))), .val (.long lo), .second, .unset, .unset, .unset, .unset, .unset, .unset, .unset, .unset, .unset, .unset] []))
      refine Go.s (fun kz => XS.goto X0.here hx rfl (pc0 := 56) (pc' := 85) rfl (hb hby at_56) (by decide) (by decide) kz) ?_
      show Go p.tables e below P (s₁.setTop (mkF m 85 #[.val (.int p1), .val (.int p2), .val (.int p3), .val (.int p4), .val (.int p5), .val (.long lo), .second, .val (.long wd), .second, .val (.long hi), .second, .val (.long kk), .second, .val (.int (p3 &&& (3 : Int32))), .val (.long lo), .second, .unset, .unset, .unset, .unset, .unset, .unset, .unset, .unset, .unset, .unset] []))
      exact J85 lo (by omega)
    · skip
      refine Go.s (fun kz => XS.ifYes X0.here hx rfl (pc0 := 49) (pc' := 59) rfl (hb hby at_49) rfl (XT.i0_ne_t hc49) (by decide) (by decide) kz) ?_
      show Go p.tables e below P (s₁.setTop (mkF m 59 #[.val (.int p1), .val (.int p2), .val (.int p3), .val (.int p4), .val (.int p5), .val (.long lo), .second, .val (.long wd), .second, .val (.long hi), .second, .val (.long kk), .second, .val (.int (p3 &&& (3 : Int32))), .unset, .unset, .unset, .unset, .unset, .unset, .unset, .unset, .unset, .unset, .unset, .unset] []))
      refine Go.s (fun kz => XS.iload X0.here hx rfl (hb hby at_59) rfl kz) ?_
      show Go p.tables e below P (s₁.setTop (mkF m 61 #[.val (.int p1), .val (.int p2), .val (.int p3), .val (.int p4), .val (.int p5), .val (.long lo), .second, .val (.long wd), .second, .val (.long hi), .second, .val (.long kk), .second, .val (.int (p3 &&& (3 : Int32))), .unset, .unset, .unset, .unset, .unset, .unset, .unset, .unset, .unset, .unset, .unset, .unset] [(.int (p3 &&& (3 : Int32)))]))
      refine Go.s (fun kz => XS.iconst X0.here hx rfl (hb hby at_61) kz) ?_
      show Go p.tables e below P (s₁.setTop (mkF m 62 #[.val (.int p1), .val (.int p2), .val (.int p3), .val (.int p4), .val (.int p5), .val (.long lo), .second, .val (.long wd), .second, .val (.long hi), .second, .val (.long kk), .second, .val (.int (p3 &&& (3 : Int32))), .unset, .unset, .unset, .unset, .unset, .unset, .unset, .unset, .unset, .unset, .unset, .unset] [(.int (1 : Int32)), (.int (p3 &&& (3 : Int32)))]))
      by_cases hc62 : (p3 &&& (3 : Int32)) = (1 : Int32)
      · skip
        refine Go.s (fun kz => XS.icmpNo X0.here hx rfl (hb hby at_62) rfl (XT.ii_ne_f hc62) kz) ?_
        show Go p.tables e below P (s₁.setTop (mkF m 65 #[.val (.int p1), .val (.int p2), .val (.int p3), .val (.int p4), .val (.int p5), .val (.long lo), .second, .val (.long wd), .second, .val (.long hi), .second, .val (.long kk), .second, .val (.int (p3 &&& (3 : Int32))), .unset, .unset, .unset, .unset, .unset, .unset, .unset, .unset, .unset, .unset, .unset, .unset] []))
        refine Go.s (fun kz => XT.lload X0.here hx rfl (hb hby at_65) rfl kz) ?_
        show Go p.tables e below P (s₁.setTop (mkF m 67 #[.val (.int p1), .val (.int p2), .val (.int p3), .val (.int p4), .val (.int p5), .val (.long lo), .second, .val (.long wd), .second, .val (.long hi), .second, .val (.long kk), .second, .val (.int (p3 &&& (3 : Int32))), .unset, .unset, .unset, .unset, .unset, .unset, .unset, .unset, .unset, .unset, .unset, .unset] [(.long hi)]))
        refine Go.s (fun kz => XT.lstore X0.here hx rfl (hb hby at_67) rfl (l' := #[.val (.int p1), .val (.int p2), .val (.int p3), .val (.int p4), .val (.int p5), .val (.long lo), .second, .val (.long wd), .second, .val (.long hi), .second, .val (.long kk), .second, .val (.int (p3 &&& (3 : Int32))), .val (.long hi), .second, .unset, .unset, .unset, .unset, .unset, .unset, .unset, .unset, .unset, .unset]) rfl kz) ?_
        show Go p.tables e below P (s₁.setTop (mkF m 69 #[.val (.int p1), .val (.int p2), .val (.int p3), .val (.int p4), .val (.int p5), .val (.long lo), .second, .val (.long wd), .second, .val (.long hi), .second, .val (.long kk), .second, .val (.int (p3 &&& (3 : Int32))), .val (.long hi), .second, .unset, .unset, .unset, .unset, .unset, .unset, .unset, .unset, .unset, .unset] []))
        refine Go.s (fun kz => XS.goto X0.here hx rfl (pc0 := 69) (pc' := 85) rfl (hb hby at_69) (by decide) (by decide) kz) ?_
        show Go p.tables e below P (s₁.setTop (mkF m 85 #[.val (.int p1), .val (.int p2), .val (.int p3), .val (.int p4), .val (.int p5), .val (.long lo), .second, .val (.long wd), .second, .val (.long hi), .second, .val (.long kk), .second, .val (.int (p3 &&& (3 : Int32))), .val (.long hi), .second, .unset, .unset, .unset, .unset, .unset, .unset, .unset, .unset, .unset, .unset] []))
        exact J85 hi (by omega)
      · skip
        refine Go.s (fun kz => XS.icmpYes X0.here hx rfl (pc0 := 62) (pc' := 72) rfl (hb hby at_62) rfl (XT.ii_ne_t hc62) (by decide) (by decide) kz) ?_
        show Go p.tables e below P (s₁.setTop (mkF m 72 #[.val (.int p1), .val (.int p2), .val (.int p3), .val (.int p4), .val (.int p5), .val (.long lo), .second, .val (.long wd), .second, .val (.long hi), .second, .val (.long kk), .second, .val (.int (p3 &&& (3 : Int32))), .unset, .unset, .unset, .unset, .unset, .unset, .unset, .unset, .unset, .unset, .unset, .unset] []))
        refine Go.s (fun kz => XS.iloadN X0.here hx rfl (hb hby at_72) rfl kz) ?_
        show Go p.tables e below P (s₁.setTop (mkF m 73 #[.val (.int p1), .val (.int p2), .val (.int p3), .val (.int p4), .val (.int p5), .val (.long lo), .second, .val (.long wd), .second, .val (.long hi), .second, .val (.long kk), .second, .val (.int (p3 &&& (3 : Int32))), .unset, .unset, .unset, .unset, .unset, .unset, .unset, .unset, .unset, .unset, .unset, .unset] [(.int p3)]))
        refine Go.s (fun kz => XS.iconst X0.here hx rfl (hb hby at_73) kz) ?_
        show Go p.tables e below P (s₁.setTop (mkF m 74 #[.val (.int p1), .val (.int p2), .val (.int p3), .val (.int p4), .val (.int p5), .val (.long lo), .second, .val (.long wd), .second, .val (.long hi), .second, .val (.long kk), .second, .val (.int (p3 &&& (3 : Int32))), .unset, .unset, .unset, .unset, .unset, .unset, .unset, .unset, .unset, .unset, .unset, .unset] [(.int (2 : Int32)), (.int p3)]))
        refine Go.s (fun kz => XT.iushr X0.here hx rfl (hb hby at_74) rfl kz) ?_
        show Go p.tables e below P (s₁.setTop (mkF m 75 #[.val (.int p1), .val (.int p2), .val (.int p3), .val (.int p4), .val (.int p5), .val (.long lo), .second, .val (.long wd), .second, .val (.long hi), .second, .val (.long kk), .second, .val (.int (p3 &&& (3 : Int32))), .unset, .unset, .unset, .unset, .unset, .unset, .unset, .unset, .unset, .unset, .unset, .unset] [(.int (XT.ushr p3 (2 : Int32)))]))
        refine Go.s (fun kz => X0.ldcI hx hown (mvT hZ (hw _ (List.mem_of_getElem? (i := 2) rfl))) rfl (hb hby at_75) kz) ?_
        show Go p.tables e below P (s₁.setTop (mkF m 77 #[.val (.int p1), .val (.int p2), .val (.int p3), .val (.int p4), .val (.int p5), .val (.long lo), .second, .val (.long wd), .second, .val (.long hi), .second, .val (.long kk), .second, .val (.int (p3 &&& (3 : Int32))), .unset, .unset, .unset, .unset, .unset, .unset, .unset, .unset, .unset, .unset, .unset, .unset] [(.int (262143 : Int32)), (.int (XT.ushr p3 (2 : Int32)))]))
        refine Go.s (fun kz => XS.iand X0.here hx rfl (hb hby at_77) rfl kz) ?_
        show Go p.tables e below P (s₁.setTop (mkF m 78 #[.val (.int p1), .val (.int p2), .val (.int p3), .val (.int p4), .val (.int p5), .val (.long lo), .second, .val (.long wd), .second, .val (.long hi), .second, .val (.long kk), .second, .val (.int (p3 &&& (3 : Int32))), .unset, .unset, .unset, .unset, .unset, .unset, .unset, .unset, .unset, .unset, .unset, .unset] [(.int ((XT.ushr p3 (2 : Int32)) &&& (262143 : Int32)))]))
        refine Go.s (fun kz => XT.i2l X0.here hx rfl (hb hby at_78) rfl kz) ?_
        show Go p.tables e below P (s₁.setTop (mkF m 79 #[.val (.int p1), .val (.int p2), .val (.int p3), .val (.int p4), .val (.int p5), .val (.long lo), .second, .val (.long wd), .second, .val (.long hi), .second, .val (.long kk), .second, .val (.int (p3 &&& (3 : Int32))), .unset, .unset, .unset, .unset, .unset, .unset, .unset, .unset, .unset, .unset, .unset, .unset] [(.long ((XT.ushr p3 (2 : Int32)) &&& (262143 : Int32)).toInt64)]))
        refine Go.s (fun kz => X0.ldc2J hx hown (mvT hZ (hw _ (List.mem_of_getElem? (i := 3) rfl))) rfl (hb hby at_79) kz) ?_
        show Go p.tables e below P (s₁.setTop (mkF m 82 #[.val (.int p1), .val (.int p2), .val (.int p3), .val (.int p4), .val (.int p5), .val (.long lo), .second, .val (.long wd), .second, .val (.long hi), .second, .val (.long kk), .second, .val (.int (p3 &&& (3 : Int32))), .unset, .unset, .unset, .unset, .unset, .unset, .unset, .unset, .unset, .unset, .unset, .unset] [(.long (65536 : Int64)), (.long ((XT.ushr p3 (2 : Int32)) &&& (262143 : Int32)).toInt64)]))
        refine Go.s (fun kz => XT.lsub X0.here hx rfl (hb hby at_82) rfl kz) ?_
        show Go p.tables e below P (s₁.setTop (mkF m 83 #[.val (.int p1), .val (.int p2), .val (.int p3), .val (.int p4), .val (.int p5), .val (.long lo), .second, .val (.long wd), .second, .val (.long hi), .second, .val (.long kk), .second, .val (.int (p3 &&& (3 : Int32))), .unset, .unset, .unset, .unset, .unset, .unset, .unset, .unset, .unset, .unset, .unset, .unset] [(.long (((XT.ushr p3 (2 : Int32)) &&& (262143 : Int32)).toInt64 - (65536 : Int64)))]))
        refine Go.s (fun kz => XT.lstore X0.here hx rfl (hb hby at_83) rfl (l' := #[.val (.int p1), .val (.int p2), .val (.int p3), .val (.int p4), .val (.int p5), .val (.long lo), .second, .val (.long wd), .second, .val (.long hi), .second, .val (.long kk), .second, .val (.int (p3 &&& (3 : Int32))), .val (.long (((XT.ushr p3 (2 : Int32)) &&& (262143 : Int32)).toInt64 - (65536 : Int64))), .second, .unset, .unset, .unset, .unset, .unset, .unset, .unset, .unset, .unset, .unset]) rfl kz) ?_
        show Go p.tables e below P (s₁.setTop (mkF m 85 #[.val (.int p1), .val (.int p2), .val (.int p3), .val (.int p4), .val (.int p5), .val (.long lo), .second, .val (.long wd), .second, .val (.long hi), .second, .val (.long kk), .second, .val (.int (p3 &&& (3 : Int32))), .val (.long (((XT.ushr p3 (2 : Int32)) &&& (262143 : Int32)).toInt64 - (65536 : Int64))), .second, .unset, .unset, .unset, .unset, .unset, .unset, .unset, .unset, .unset, .unset] []))
        exact J85 (((XT.ushr p3 (2 : Int32)) &&& (262143 : Int32)).toInt64 - (65536 : Int64)) (own_r3 _)
  by_cases hc12 : (p2 &&& (1 : Int32)) = 0
  · skip
    refine Go.s (fun kz => XS.ifNo X0.here hx rfl (hb hby at_12) rfl (XT.i0_ne_f hc12) kz) ?_
    show Go p.tables e below P (s₁.setTop (mkF m 15 #[.val (.int p1), .val (.int p2), .val (.int p3), .val (.int p4), .val (.int p5), .val (.long lo), .second, .unset, .unset, .unset, .unset, .unset, .unset, .unset, .unset, .unset, .unset, .unset, .unset, .unset, .unset, .unset, .unset, .unset, .unset, .unset] []))
    refine Go.s (fun kz => XT.lconst X0.here hx rfl (hb hby at_15) kz) ?_
    show Go p.tables e below P (s₁.setTop (mkF m 16 #[.val (.int p1), .val (.int p2), .val (.int p3), .val (.int p4), .val (.int p5), .val (.long lo), .second, .unset, .unset, .unset, .unset, .unset, .unset, .unset, .unset, .unset, .unset, .unset, .unset, .unset, .unset, .unset, .unset, .unset, .unset, .unset] [(.long (0 : Int64))]))
    refine Go.s (fun kz => XS.goto X0.here hx rfl (pc0 := 16) (pc' := 26) rfl (hb hby at_16) (by decide) (by decide) kz) ?_
    show Go p.tables e below P (s₁.setTop (mkF m 26 #[.val (.int p1), .val (.int p2), .val (.int p3), .val (.int p4), .val (.int p5), .val (.long lo), .second, .unset, .unset, .unset, .unset, .unset, .unset, .unset, .unset, .unset, .unset, .unset, .unset, .unset, .unset, .unset, .unset, .unset, .unset, .unset] [(.long (0 : Int64))]))
    exact J26 (0 : Int64) own_wd0
  · skip
    refine Go.s (fun kz => XS.ifYes X0.here hx rfl (pc0 := 12) (pc' := 19) rfl (hb hby at_12) rfl (XT.i0_ne_t hc12) (by decide) (by decide) kz) ?_
    show Go p.tables e below P (s₁.setTop (mkF m 19 #[.val (.int p1), .val (.int p2), .val (.int p3), .val (.int p4), .val (.int p5), .val (.long lo), .second, .unset, .unset, .unset, .unset, .unset, .unset, .unset, .unset, .unset, .unset, .unset, .unset, .unset, .unset, .unset, .unset, .unset, .unset, .unset] []))
    refine Go.s (fun kz => XS.iloadN X0.here hx rfl (hb hby at_19) rfl kz) ?_
    show Go p.tables e below P (s₁.setTop (mkF m 20 #[.val (.int p1), .val (.int p2), .val (.int p3), .val (.int p4), .val (.int p5), .val (.long lo), .second, .unset, .unset, .unset, .unset, .unset, .unset, .unset, .unset, .unset, .unset, .unset, .unset, .unset, .unset, .unset, .unset, .unset, .unset, .unset] [(.int p2)]))
    refine Go.s (fun kz => XS.iconst X0.here hx rfl (hb hby at_20) kz) ?_
    show Go p.tables e below P (s₁.setTop (mkF m 21 #[.val (.int p1), .val (.int p2), .val (.int p3), .val (.int p4), .val (.int p5), .val (.long lo), .second, .unset, .unset, .unset, .unset, .unset, .unset, .unset, .unset, .unset, .unset, .unset, .unset, .unset, .unset, .unset, .unset, .unset, .unset, .unset] [(.int (1 : Int32)), (.int p2)]))
    refine Go.s (fun kz => XT.iushr X0.here hx rfl (hb hby at_21) rfl kz) ?_
    show Go p.tables e below P (s₁.setTop (mkF m 22 #[.val (.int p1), .val (.int p2), .val (.int p3), .val (.int p4), .val (.int p5), .val (.long lo), .second, .unset, .unset, .unset, .unset, .unset, .unset, .unset, .unset, .unset, .unset, .unset, .unset, .unset, .unset, .unset, .unset, .unset, .unset, .unset] [(.int (XT.ushr p2 (1 : Int32)))]))
    refine Go.s (fun kz => X0.ldcI hx hown (mvT hZ (hw _ (List.mem_of_getElem? (i := 0) rfl))) rfl (hb hby at_22) kz) ?_
    show Go p.tables e below P (s₁.setTop (mkF m 24 #[.val (.int p1), .val (.int p2), .val (.int p3), .val (.int p4), .val (.int p5), .val (.long lo), .second, .unset, .unset, .unset, .unset, .unset, .unset, .unset, .unset, .unset, .unset, .unset, .unset, .unset, .unset, .unset, .unset, .unset, .unset, .unset] [(.int (65535 : Int32)), (.int (XT.ushr p2 (1 : Int32)))]))
    refine Go.s (fun kz => XS.iand X0.here hx rfl (hb hby at_24) rfl kz) ?_
    show Go p.tables e below P (s₁.setTop (mkF m 25 #[.val (.int p1), .val (.int p2), .val (.int p3), .val (.int p4), .val (.int p5), .val (.long lo), .second, .unset, .unset, .unset, .unset, .unset, .unset, .unset, .unset, .unset, .unset, .unset, .unset, .unset, .unset, .unset, .unset, .unset, .unset, .unset] [(.int ((XT.ushr p2 (1 : Int32)) &&& (65535 : Int32)))]))
    refine Go.s (fun kz => XT.i2l X0.here hx rfl (hb hby at_25) rfl kz) ?_
    show Go p.tables e below P (s₁.setTop (mkF m 26 #[.val (.int p1), .val (.int p2), .val (.int p3), .val (.int p4), .val (.int p5), .val (.long lo), .second, .unset, .unset, .unset, .unset, .unset, .unset, .unset, .unset, .unset, .unset, .unset, .unset, .unset, .unset, .unset, .unset, .unset, .unset, .unset] [(.long ((XT.ushr p2 (1 : Int32)) &&& (65535 : Int32)).toInt64)]))
    exact J26 (((XT.ushr p2 (1 : Int32)) &&& (65535 : Int32)).toInt64) (own_wd _)
set_option maxRecDepth 65536 in
set_option maxHeartbeats 40000000 in
theorem own_comes {Post : Tables → Env → Array Value → State → Outcome → State → Prop} (hpost : ∀ tb e args s v u, (limb_1_1.after args s (.returned v) u = true ∧ limb_1_2.after args s (.returned v) u = true ∧ True) → FrameEnd s (.returned v) u (Jvm.fieldLocs frame_1_writes args s ++ Jvm.arrayLocs frame_1_arrays args s ++ Jvm.staticLocs frame_1_statics s) 16 128 → Post tb e args s (.returned v) u) :
    ArmFor flags0 classFile x code maxLocals ret World_1 tables_1 room_1 Calls_1 rest_1 Pre_1 Post := by
  intro l hfl _ _ p e ha hc hk s m args below hf hA hF happ hP
  obtain ⟨hcalls, hrest, hpre⟩ := hP
  obtain ⟨-, -, -, hnamed, -, -, -, hat⟩ := (Spec.applies_iff hf).mp happ
  obtain ⟨hg, hn⟩ := and_e (Cond.before_iff.mp (show (Jvm.Cond.and given_1 narrow_1).before args s = true from hpre))
  obtain ⟨h1, g1⟩ := and_e hg
  obtain ⟨w0, w1, w2, w3, w4, rfl⟩ : ∃ w0 w1 w2 w3 w4 : Value, args = #[w0, w1, w2, w3, w4] := by
    have hs : args.size = 5 := by simpa [Cond.value, given_1] using h1
    obtain ⟨L⟩ := args
    match L, hs with
    | [w0, w1, w2, w3, w4], _ => exact ⟨w0, w1, w2, w3, w4, rfl⟩
  have hw := fun d (hd : d ∈ tables_1) => atoms_spec (ws := Jvm.Cond.code x code maxLocals ret :: tables_1) hat d (List.mem_cons_of_mem _ hd)
  have hfit : Fit s := fun {y c} hc i hi => by
    obtain ⟨ha, rfl⟩ := Array.getElem?_eq_some_iff.mp hc
    have q := List.all_eq_true.mp ((Array.all_eq_true_iff_forall_mem.mp hF) _ (Array.getElem_mem ha)) i (List.mem_range.mpr hi)
    simpa [Array.getElem?_eq_getElem hi] using q
  obtain ⟨a0, g2⟩ := and_e g1
  obtain ⟨i0, ee0⟩ := is_v a0
  obtain rfl : w0 = (.int i0) := Option.some.inj ee0
  obtain ⟨a1, g3⟩ := and_e g2
  obtain ⟨i1, ee1⟩ := is_v a1
  obtain rfl : w1 = (.int i1) := Option.some.inj ee1
  obtain ⟨a2, g4⟩ := and_e g3
  obtain ⟨i2, ee2⟩ := is_v a2
  obtain rfl : w2 = (.int i2) := Option.some.inj ee2
  obtain ⟨a3, g5⟩ := and_e g4
  obtain ⟨i3, ee3⟩ := is_v a3
  obtain rfl : w3 = (.int i3) := Option.some.inj ee3
  obtain ⟨i4, ee4⟩ := is_v g5
  obtain rfl : w4 = (.int i4) := Option.some.inj ee4
  obtain ⟨n, o, h1, h2, h3, _, L, rfl, ⟨rfl, N⟩, hq⟩ := own_rm0 l s _ hw tables_1 i0 i1 i2 i3 i4  s.heap s.heap.size (Nat.le_refl _)  p e ha hc hk s m _ below hf ((Spec.applies_iff_loose hf).mp happ).1 ⟨rfl, State.Warmed39.refl s, rfl⟩ trivial
  refine ⟨n, _, h1, h2, h3, hpost _ _ _ _ _ _ ⟨Cond.after_iff.mpr rfl, Cond.after_iff.mpr (eq_i res_at (Term.int_eval (1)) rfl), trivial⟩ ⟨hq.1, hq.2.1, (hq.2.2.sift fun y hy => Or.inr (N y hy)).mono (by decide) (by decide)⟩⟩
theorem main_1_1 : Claimed_1_1 := own_comes fun _ _ _ _ _ _ h hF => ⟨h.1, hF⟩
theorem main_1_2 : Claimed_1_2 := own_comes fun _ _ _ _ _ _ h hF => ⟨h.2.1, hF⟩
end Jvm.Pilot.@@N@@
namespace Jvm.Pilot.@@N@@
open Jvm Jvm.ClassFile Sem Op Lib Jvm.Free Jvm.Stand Jvm.Pilot.@@N@@.Jvm.D
/-! MADE BY PROGRAM (witnessworld.py) out of the Statement's table words and the real class files: 12 classes; the members and pool entries that the words name. The judged class is class 1, her method 1. -/
namespace start1
open Jvm.ClassFile
def u (s : String) : CpInfo := .utf8 (stringToUtf16 s)
/-- a pool by its gaps: so many unusable entries, then the entry; so many at the end -/
def gap : Nat → List CpInfo → List CpInfo
  | 0, r => r
  | n + 1, r => .unusable :: gap n r
def poolList (es : List (Nat × CpInfo)) (last : Nat) : List CpInfo := es.foldr (fun e r => gap e.1 (e.2 :: r)) (gap last [])
def pool (es : List (Nat × CpInfo)) (last : Nat) : Array CpInfo := ⟨poolList es last⟩
def fileOf (pool : Array CpInfo) (this : Nat) (attrs : Array Attribute := #[]) (ms : Array MethodInfo := #[]) (fl : Nat := 33) (sup : Nat := 0) (ifs : Array Nat := #[]) (fds : Array FieldInfo := #[]) : ClassFile where
  minorVersion := 0
  majorVersion := 65
  constantPool := pool
  accessFlags := fl
  thisClass := this
  superClass := sup
  interfaces := ifs
  fields := fds
  methods := ms
  attributes := attrs
def plain (name : String) (sup : Option ClassId) : Class where
  name := name
  kind := .ordinary
  loader := none
  accessFlags := 33
  super := sup
  interfaces := #[]
  cf := none
  fields := #[]
  methods := #[]
  instanceTypes := #[]
  staticTypes := #[]
  resolved := #[]
  callSites := []
  init := .initialized
  statics := none
  mirror := none

def pool0 : Array CpInfo := pool [(5, u "<init>"), (0, u "()V"), (1, .class_ 10), (1, u "java/lang/Object")] 113

def k0c0 : Code := { maxStack := 0, maxLocals := 1, code := object_method_1_code, exceptionTable := #[], attributes := #[] }
def k0m0 : Method := { name := "<init>", desc := "()V", sig := { parameters := [], returnType := none }, accessFlags := 1, code := some k0c0 }
/-- java/lang/Object -/
def k0 : Class := { plain "java/lang/Object" none with
  accessFlags := 33
  interfaces := #[]
  cf := some (fileOf pool0 8 #[] #[{ accessFlags := 1, nameIndex := 5, descriptorIndex := 6, attributes := #[] }] 33 0 #[] #[])
  fields := #[]
  methods := #[k0m0]
  instanceTypes := #[]
  staticTypes := #[]
  resolved := Array.replicate 124 none
  statics := none }

def pool1 : Array CpInfo := pool [(2, .class_ 4), (1, u "java/lang/Object"), (0, u "<init>"), (0, u "()V"), (0, .integer 65535), (0, .integer 1048575), (0, .integer 262143), (0, .long 65536), (1, .class_ 13), (0, u "com/example/heraldmesh/heraldmesh/plan/Tradeoffs$Cluster"), (0, .methodref 12 15), (0, .nameAndType 5 16), (0, u "(IDDDD)V"), (0, .methodref 12 18), (0, .nameAndType 19 20), (0, u "savedAbove"), (0, u "(D)D"), (0, .methodref 22 23), (0, .class_ 24), (0, .nameAndType 25 26), (0, u "java/lang/Math"), (0, u "min"), (0, u "(JJ)J"), (0, .methodref 22 28), (0, .nameAndType 29 26), (0, u "max"), (0, .class_ 31), (0, u "com/example/heraldmesh/heraldmesh/plan/ClusterSavedAbovePinLaw"), (2, u "law"), (0, u "(IIIII)Z")] 7

def k1m0 : Method := { name := "<init>", desc := "()V", sig := { parameters := [], returnType := none }, accessFlags := 2, code := none }
def k1c1 : Code := { maxStack := 11, maxLocals := 26, code := code, exceptionTable := #[], attributes := #[] }
def k1m1 : Method := { name := "law", desc := "(IIIII)Z", sig := { parameters := [.int, .int, .int, .int, .int], returnType := some .boolean }, accessFlags := 9, code := some k1c1 }
/-- com/example/heraldmesh/heraldmesh/plan/ClusterSavedAbovePinLaw -/
def k1 : Class := { plain "com/example/heraldmesh/heraldmesh/plan/ClusterSavedAbovePinLaw" (some 0) with
  accessFlags := 49
  interfaces := #[]
  cf := some (fileOf pool1 30 #[] #[{ accessFlags := 2, nameIndex := 5, descriptorIndex := 6, attributes := #[] }, { accessFlags := 9, nameIndex := 34, descriptorIndex := 35, attributes := #[] }] 49 2 #[] #[])
  fields := #[]
  methods := #[k1m0, k1m1]
  instanceTypes := #[]
  staticTypes := #[]
  resolved := Array.replicate 43 none
  statics := none }

def pool2 : Array CpInfo := pool [(1, .methodref 2 3), (0, .class_ 4), (0, .nameAndType 5 6), (0, u "java/lang/Object"), (0, u "<init>"), (0, u "()V"), (0, .class_ 8), (0, u "java/lang/Record")] 13

def k2c0 : Code := { maxStack := 1, maxLocals := 1, code := jdk_30_method_1_code, exceptionTable := #[], attributes := #[] }
def k2m0 : Method := { name := "<init>", desc := "()V", sig := { parameters := [], returnType := none }, accessFlags := 4, code := some k2c0 }
/-- java/lang/Record -/
def k2 : Class := { plain "java/lang/Record" (some 0) with
  accessFlags := 1057
  interfaces := #[]
  cf := some (fileOf pool2 7 #[] #[{ accessFlags := 4, nameIndex := 5, descriptorIndex := 6, attributes := #[] }] 1057 2 #[] #[])
  fields := #[]
  methods := #[k2m0]
  instanceTypes := #[]
  staticTypes := #[]
  resolved := Array.replicate 22 none
  statics := none }

def pool3 : Array CpInfo := pool [(1, .methodref 2 3), (0, .class_ 4), (0, .nameAndType 5 6), (0, u "java/lang/Record"), (0, u "<init>"), (0, u "()V"), (0, .methodref 8 9), (0, .class_ 10), (0, .nameAndType 11 12), (0, u "com/example/heraldmesh/heraldmesh/plan/Tradeoffs"), (0, u "positive"), (0, u "(D)Z"), (0, .methodref 8 14), (0, .nameAndType 15 12), (0, u "nonNegative"), (2, .double 9218868437227405312), (30, .fieldref 50 51), (0, .class_ 52), (0, .nameAndType 53 54), (0, u "com/example/heraldmesh/heraldmesh/plan/Tradeoffs$Cluster"), (0, u "level"), (0, u "I"), (0, .fieldref 50 56), (0, .nameAndType 57 58), (0, u "polls"), (0, u "D"), (0, .fieldref 50 60), (0, .nameAndType 61 58), (0, u "saved"), (0, .fieldref 50 63), (0, .nameAndType 64 58), (0, u "low"), (0, .fieldref 50 66), (0, .nameAndType 67 58), (0, u "high"), (5, u "(D)D"), (12, u "(IDDDD)V"), (5, u "savedAbove")] 38

def k3c0 : Code := { maxStack := 8, maxLocals := 10, code := prog_96_method_1_code, exceptionTable := #[], attributes := #[] }
def k3m0 : Method := { name := "<init>", desc := "(IDDDD)V", sig := { parameters := [.int, .double, .double, .double, .double], returnType := none }, accessFlags := 1, code := some k3c0 }
def k3c1 : Code := { maxStack := 6, maxLocals := 5, code := prog_96_method_3_code, exceptionTable := #[], attributes := #[] }
def k3m1 : Method := { name := "savedAbove", desc := "(D)D", sig := { parameters := [.double], returnType := some .double }, accessFlags := 0, code := some k3c1 }
/-- com/example/heraldmesh/heraldmesh/plan/Tradeoffs$Cluster -/
def k3 : Class := { plain "com/example/heraldmesh/heraldmesh/plan/Tradeoffs$Cluster" (some 2) with
  accessFlags := 49
  interfaces := #[]
  cf := some (fileOf pool3 50 #[.nestHost 8] #[{ accessFlags := 1, nameIndex := 5, descriptorIndex := 86, attributes := #[] }, { accessFlags := 0, nameIndex := 92, descriptorIndex := 73, attributes := #[] }] 49 2 #[] #[{ accessFlags := 18, nameIndex := 53, descriptorIndex := 54, attributes := #[] }, { accessFlags := 18, nameIndex := 57, descriptorIndex := 58, attributes := #[] }, { accessFlags := 18, nameIndex := 61, descriptorIndex := 58, attributes := #[] }, { accessFlags := 18, nameIndex := 64, descriptorIndex := 58, attributes := #[] }, { accessFlags := 18, nameIndex := 67, descriptorIndex := 58, attributes := #[] }])
  fields := #[{ name := "level", type := .int, accessFlags := 18, slot := 0, constantValue := 0 }, { name := "polls", type := .double, accessFlags := 18, slot := 1, constantValue := 0 }, { name := "saved", type := .double, accessFlags := 18, slot := 2, constantValue := 0 }, { name := "low", type := .double, accessFlags := 18, slot := 3, constantValue := 0 }, { name := "high", type := .double, accessFlags := 18, slot := 4, constantValue := 0 }]
  methods := #[k3m0, k3m1]
  instanceTypes := #[.int, .double, .double, .double, .double]
  staticTypes := #[]
  resolved := Array.replicate 131 none
  statics := none }

def pool4 : Array CpInfo := pool [(2, .class_ 4), (1, u "java/lang/Object"), (3, .class_ 10), (1, u "com/example/heraldmesh/heraldmesh/plan/Tradeoffs"), (0, u "subscribers"), (0, u "J"), (2, u "polls"), (0, u "D"), (2, u "seconds"), (8, u "clusters"), (0, u "Ljava/util/List;"), (49, .class_ 80), (0, u "com/example/heraldmesh/heraldmesh/plan/Tradeoffs$Cluster"), (70, u "text"), (0, u "Ljava/lang/String;"), (55, u "COUNT"), (0, u "Ljava/util/regex/Pattern;"), (25, u "nonNegative"), (0, u "(D)Z"), (2, u "LEVEL"), (27, .class_ 268), (0, u "com/example/heraldmesh/heraldmesh/plan/Tradeoffs$Piece"), (30, .double 9218868437227405312), (24, u "NONE"), (0, u "Lcom/example/heraldmesh/heraldmesh/plan/Tradeoffs;"), (8, u "CLUSTERS_PER_LEVEL"), (0, u "I"), (2, u "TOTALS"), (0, u "CLUSTER"), (21, u "positive")] 42

def k4c0 : Code := { maxStack := 4, maxLocals := 2, code := prog_95_method_15_code, exceptionTable := #[], attributes := #[] }
def k4m0 : Method := { name := "positive", desc := "(D)Z", sig := { parameters := [.double], returnType := some .boolean }, accessFlags := 10, code := some k4c0 }
def k4c1 : Code := { maxStack := 4, maxLocals := 2, code := prog_95_method_16_code, exceptionTable := #[], attributes := #[] }
def k4m1 : Method := { name := "nonNegative", desc := "(D)Z", sig := { parameters := [.double], returnType := some .boolean }, accessFlags := 10, code := some k4c1 }
/-- com/example/heraldmesh/heraldmesh/plan/Tradeoffs -/
def k4 : Class := { plain "com/example/heraldmesh/heraldmesh/plan/Tradeoffs" (some 0) with
  accessFlags := 49
  interfaces := #[]
  cf := some (fileOf pool4 8 #[.nestMembers #[267, 79]] #[{ accessFlags := 10, nameIndex := 361, descriptorIndex := 236, attributes := #[] }, { accessFlags := 10, nameIndex := 235, descriptorIndex := 236, attributes := #[] }] 49 2 #[] #[{ accessFlags := 25, nameIndex := 334, descriptorIndex := 335, attributes := #[] }, { accessFlags := 25, nameIndex := 324, descriptorIndex := 325, attributes := #[] }, { accessFlags := 26, nameIndex := 338, descriptorIndex := 152, attributes := #[] }, { accessFlags := 26, nameIndex := 339, descriptorIndex := 152, attributes := #[] }, { accessFlags := 26, nameIndex := 208, descriptorIndex := 209, attributes := #[] }, { accessFlags := 26, nameIndex := 239, descriptorIndex := 209, attributes := #[] }, { accessFlags := 18, nameIndex := 11, descriptorIndex := 12, attributes := #[] }, { accessFlags := 18, nameIndex := 15, descriptorIndex := 16, attributes := #[] }, { accessFlags := 18, nameIndex := 19, descriptorIndex := 16, attributes := #[] }, { accessFlags := 18, nameIndex := 28, descriptorIndex := 29, attributes := #[] }, { accessFlags := 2, nameIndex := 151, descriptorIndex := 152, attributes := #[] }])
  fields := #[{ name := "CLUSTERS_PER_LEVEL", type := .int, accessFlags := 25, slot := 0, constantValue := 0 }, { name := "NONE", type := (.object "com/example/heraldmesh/heraldmesh/plan/Tradeoffs"), accessFlags := 25, slot := 1, constantValue := 0 }, { name := "TOTALS", type := (.object "java/lang/String"), accessFlags := 26, slot := 2, constantValue := 0 }, { name := "CLUSTER", type := (.object "java/lang/String"), accessFlags := 26, slot := 3, constantValue := 0 }, { name := "COUNT", type := (.object "java/util/regex/Pattern"), accessFlags := 26, slot := 4, constantValue := 0 }, { name := "LEVEL", type := (.object "java/util/regex/Pattern"), accessFlags := 26, slot := 5, constantValue := 0 }, { name := "subscribers", type := .long, accessFlags := 18, slot := 0, constantValue := 0 }, { name := "polls", type := .double, accessFlags := 18, slot := 1, constantValue := 0 }, { name := "seconds", type := .double, accessFlags := 18, slot := 2, constantValue := 0 }, { name := "clusters", type := (.object "java/util/List"), accessFlags := 18, slot := 3, constantValue := 0 }, { name := "text", type := (.object "java/lang/String"), accessFlags := 2, slot := 4, constantValue := 0 }]
  methods := #[k4m0, k4m1]
  instanceTypes := #[.long, .double, .double, (.object "java/util/List"), (.object "java/lang/String")]
  staticTypes := #[.int, (.object "com/example/heraldmesh/heraldmesh/plan/Tradeoffs"), (.object "java/lang/String"), (.object "java/lang/String"), (.object "java/util/regex/Pattern"), (.object "java/util/regex/Pattern")]
  resolved := Array.replicate 404 none
  statics := none }

def pool5 : Array CpInfo := pool [(1, .class_ 2), (0, u "java/lang/Math"), (1, .class_ 6), (1, u "java/lang/Object"), (0, u "<init>"), (0, u "()V"), (89, .class_ 100), (1, u "java/lang/Math$RandomNumberGeneratorHolder"), (20, u "(JJ)J"), (50, u "negativeZeroFloatBits"), (0, u "J"), (2, u "negativeZeroDoubleBits"), (21, u "max"), (2, u "min"), (43, u "$assertionsDisabled"), (0, u "Z"), (91, u "twoToTheDoubleScaleDown"), (0, u "D"), (4, u "twoToTheDoubleScaleUp"), (9, u "E"), (3, u "PI"), (2, u "TAU"), (2, u "DEGREES_TO_RADIANS"), (0, u "RADIANS_TO_DEGREES")] 94

def k5m0 : Method := { name := "<init>", desc := "()V", sig := { parameters := [], returnType := none }, accessFlags := 2, code := none }
def k5c1 : Code := { maxStack := 4, maxLocals := 4, code := jdk_29_method_66_code, exceptionTable := #[], attributes := #[] }
def k5m1 : Method := { name := "max", desc := "(JJ)J", sig := { parameters := [.long, .long], returnType := some .long }, accessFlags := 9, code := some k5c1 }
def k5c2 : Code := { maxStack := 4, maxLocals := 4, code := jdk_29_method_70_code, exceptionTable := #[], attributes := #[] }
def k5m2 : Method := { name := "min", desc := "(JJ)J", sig := { parameters := [.long, .long], returnType := some .long }, accessFlags := 9, code := some k5c2 }
/-- java/lang/Math -/
def k5 : Class := { plain "java/lang/Math" (some 0) with
  accessFlags := 49
  interfaces := #[]
  cf := some (fileOf pool5 1 #[.nestMembers #[98]] #[{ accessFlags := 2, nameIndex := 7, descriptorIndex := 8, attributes := #[] }, { accessFlags := 9, nameIndex := 198, descriptorIndex := 121, attributes := #[] }, { accessFlags := 9, nameIndex := 201, descriptorIndex := 121, attributes := #[] }] 49 4 #[] #[{ accessFlags := 25, nameIndex := 354, descriptorIndex := 339, attributes := #[] }, { accessFlags := 25, nameIndex := 358, descriptorIndex := 339, attributes := #[] }, { accessFlags := 25, nameIndex := 361, descriptorIndex := 339, attributes := #[] }, { accessFlags := 26, nameIndex := 364, descriptorIndex := 339, attributes := #[] }, { accessFlags := 26, nameIndex := 365, descriptorIndex := 339, attributes := #[] }, { accessFlags := 26, nameIndex := 172, descriptorIndex := 173, attributes := #[] }, { accessFlags := 26, nameIndex := 176, descriptorIndex := 173, attributes := #[] }, { accessFlags := 8, nameIndex := 344, descriptorIndex := 339, attributes := #[] }, { accessFlags := 8, nameIndex := 338, descriptorIndex := 339, attributes := #[] }, { accessFlags := 4120, nameIndex := 245, descriptorIndex := 246, attributes := #[] }])
  fields := #[{ name := "E", type := .double, accessFlags := 25, slot := 0, constantValue := 0 }, { name := "PI", type := .double, accessFlags := 25, slot := 1, constantValue := 0 }, { name := "TAU", type := .double, accessFlags := 25, slot := 2, constantValue := 0 }, { name := "DEGREES_TO_RADIANS", type := .double, accessFlags := 26, slot := 3, constantValue := 0 }, { name := "RADIANS_TO_DEGREES", type := .double, accessFlags := 26, slot := 4, constantValue := 0 }, { name := "negativeZeroFloatBits", type := .long, accessFlags := 26, slot := 5, constantValue := 0 }, { name := "negativeZeroDoubleBits", type := .long, accessFlags := 26, slot := 6, constantValue := 0 }, { name := "twoToTheDoubleScaleUp", type := .double, accessFlags := 8, slot := 7, constantValue := 0 }, { name := "twoToTheDoubleScaleDown", type := .double, accessFlags := 8, slot := 8, constantValue := 0 }, { name := "$assertionsDisabled", type := .boolean, accessFlags := 4120, slot := 9, constantValue := 0 }]
  methods := #[k5m0, k5m1, k5m2]
  instanceTypes := #[]
  staticTypes := #[.double, .double, .double, .double, .double, .long, .long, .double, .double, .boolean]
  resolved := Array.replicate 460 none
  statics := none }

def pool6 : Array CpInfo := pool [(1, u "java/lang/Cloneable"), (0, .class_ 1), (0, u "java/lang/Object"), (0, .class_ 3)] 3

/-- java/lang/Cloneable -/
def k6 : Class := { plain "java/lang/Cloneable" (some 0) with
  accessFlags := 1537
  interfaces := #[]
  cf := some (fileOf pool6 2 #[] #[] 1537 4 #[] #[])
  fields := #[]
  methods := #[]
  instanceTypes := #[]
  staticTypes := #[]
  resolved := Array.replicate 8 none
  statics := none }

def pool7 : Array CpInfo := pool [(1, u "java/io/Serializable"), (0, .class_ 1), (0, u "java/lang/Object"), (0, .class_ 3)] 3

/-- java/io/Serializable -/
def k7 : Class := { plain "java/io/Serializable" (some 0) with
  accessFlags := 1537
  interfaces := #[]
  cf := some (fileOf pool7 2 #[] #[] 1537 4 #[] #[])
  fields := #[]
  methods := #[]
  instanceTypes := #[]
  staticTypes := #[]
  resolved := Array.replicate 8 none
  statics := none }

/-- the primitive byte -/
def k8 : Class := { plain "byte" none with kind := .primitive 'B', accessFlags := 0x411 }
/-- [B -/
def k9 : Class := { plain "[B" (some 0) with kind := .array 8 .byte, interfaces := #[6, 7], accessFlags := 1041 }

/-- the primitive int -/
def k10 : Class := { plain "int" none with kind := .primitive 'I', accessFlags := 0x411 }
/-- [I -/
def k11 : Class := { plain "[I" (some 0) with kind := .array 10 .int, interfaces := #[6, 7], accessFlags := 1041 }

def heap : Heap := #[]
def classes : Array Class := #[k0, k1, k2, k3, k4, k5, k6, k7, k8, k9, k10, k11]
def interned : List (Array UInt16 × Addr) := []
def slotsUsed : Nat := 0
def theMethod : MethodId := ⟨1, 1⟩
def args0 : Array Value := #[.int 5, .int 7, .int 3, .int 9, .int 11]
def aboutOver (below : List Frame) : State where
  vm := { classes := classes, interned := interned.toArray }
  heap := heap
  slotsUsed := slotsUsed
  threads := #[{ frames := .invoking theMethod args0 :: below }]
def below0 : List Frame := [.native { method := ⟨0, 0⟩, args := #[] }]
def about1 : State := aboutOver below0
def p0 : Program := .bare "" "" ""
def e0 : Env := launch0.env 0 0 0
theorem w_frames : about1.frames = Frame.invoking theMethod args0 :: below0 := rfl
set_option maxRecDepth 65536 in
theorem w_args : argsFit about1.vm theMethod args0 = true := by decide +kernel
set_option maxRecDepth 65536 in
theorem w_heap : heapFits about1 = true := by decide +kernel
set_option maxRecDepth 65536 in
theorem w_runnable : about1.curStatus? = some .runnable := by decide +kernel
set_option maxRecDepth 65536 in
theorem w_alone : about1.alone = true := by decide +kernel
set_option maxRecDepth 65536 in
theorem w_named : about1.methodNamed? x = some theMethod := by decide +kernel
set_option maxRecDepth 65536 in
theorem w_hears : about1.hears theMethod below0 = true := by decide +kernel
set_option maxRecDepth 65536 in
theorem w_ripe : about1.ripe theMethod args0 below0 = true := by decide +kernel
theorem w_running : about1.status = .running := rfl
set_option maxRecDepth 65536 in
theorem w_room : about1.hasRoom e0.platform room_1 = true :=
  launch0.hasRoom_least _ room_1 (by decide +kernel) (by decide +kernel) (by decide +kernel) (by decide +kernel) (by decide +kernel) (by decide +kernel)
theorem allAtoms_all (ts : List Jvm.Cond) (a : Array Jvm.Value) (st : Jvm.State) : (allAtoms ts).before a st = ts.all (fun c => c.before a st) := by
  induction ts with
  | nil => rfl
  | cons c t ih =>
    show (Jvm.Cond.and c (allAtoms t)).before a st = _
    rw [Jvm.Cond.before_and, ih, List.all_cons]
def words1 : List Jvm.Cond := Jvm.Cond.code x code maxLocals ret :: tables_1
/-- a 'code' word, met by the world's own term for the bytes: nothing is compared byte by byte -/
theorem code_word {y : MethodName} {bytes : ByteArray} {mx : Nat} {rt : Option FieldType} {a : Array Value} {s : State} {m : MethodId} {meth : Method} {c : Code} (h1 : s.methodNamed? y = some m) (h2 : s.vm.method? m = some meth) (h3 : meth.code = some c) (h4 : c.code = bytes)
    (h5 : (c.maxLocals == mx && c.exceptionTable.isEmpty && decide (c.maxStack ≤ mostOperands) && decide (meth.sig.returnType = rt) && !meth.locks && decide (parseMethodDescriptor y.desc = some meth.sig)) = true) : (Jvm.Cond.code y bytes mx rt).before a s = true := by
  simp only [Bool.and_eq_true, beq_iff_eq, Bool.not_eq_true', decide_eq_true_eq] at h5
  obtain ⟨⟨⟨⟨⟨g1, g2⟩, g3⟩, g4⟩, g5⟩, g6⟩ := h5
  simp [Cond.before, Cond.holds, Cond.value, h1, h2, h3, h4, g1, g2, g3, g4, g5, g6]
def isCode : Jvm.Cond → Bool
  | .code _ _ _ _ => true
  | _ => false
theorem all_split {L : List Jvm.Cond} {P : Jvm.Cond → Bool} (h1 : L.all (fun c => isCode c || P c) = true) (h2 : ∀ c ∈ L.filter isCode, P c = true) : L.all P = true := by
  refine List.all_eq_true.mpr fun c hc => ?_
  have h := List.all_eq_true.mp h1 c hc
  rcases Bool.eq_false_or_eq_true (isCode c) with hi | hi
  · exact h2 c (List.mem_filter.mpr ⟨hc, hi⟩)
  · simpa [hi] using h
set_option maxRecDepth 65536 in
theorem w_c0 : (Jvm.Cond.code x code maxLocals ret).before args0 about1 = true := code_word (m := ⟨1, 1⟩) (meth := k1m1) (c := k1c1) (by decide +kernel) rfl rfl rfl (by decide +kernel)
set_option maxRecDepth 65536 in
theorem w_c1 : (Jvm.Cond.code ({ cls := "com/example/heraldmesh/heraldmesh/plan/Tradeoffs$Cluster", name := "<init>", desc := "(IDDDD)V" } : Jvm.MethodName) prog_96_method_1_code (10 : Nat) (Option.none : Option Jvm.ClassFile.FieldType)).before args0 about1 = true := code_word (m := ⟨3, 0⟩) (meth := k3m0) (c := k3c0) (by decide +kernel) rfl rfl rfl (by decide +kernel)
set_option maxRecDepth 65536 in
theorem w_c2 : (Jvm.Cond.code ({ cls := "java/lang/Record", name := "<init>", desc := "()V" } : Jvm.MethodName) jdk_30_method_1_code (1 : Nat) (Option.none : Option Jvm.ClassFile.FieldType)).before args0 about1 = true := code_word (m := ⟨2, 0⟩) (meth := k2m0) (c := k2c0) (by decide +kernel) rfl rfl rfl (by decide +kernel)
set_option maxRecDepth 65536 in
theorem w_c3 : (Jvm.Cond.code ({ cls := "java/lang/Object", name := "<init>", desc := "()V" } : Jvm.MethodName) object_method_1_code (1 : Nat) (Option.none : Option Jvm.ClassFile.FieldType)).before args0 about1 = true := code_word (m := ⟨0, 0⟩) (meth := k0m0) (c := k0c0) (by decide +kernel) rfl rfl rfl (by decide +kernel)
set_option maxRecDepth 65536 in
theorem w_c4 : (Jvm.Cond.code ({ cls := "com/example/heraldmesh/heraldmesh/plan/Tradeoffs", name := "positive", desc := "(D)Z" } : Jvm.MethodName) prog_95_method_15_code (2 : Nat) (Option.some Jvm.ClassFile.FieldType.boolean)).before args0 about1 = true := code_word (m := ⟨4, 0⟩) (meth := k4m0) (c := k4c0) (by decide +kernel) rfl rfl rfl (by decide +kernel)
set_option maxRecDepth 65536 in
theorem w_c5 : (Jvm.Cond.code ({ cls := "com/example/heraldmesh/heraldmesh/plan/Tradeoffs", name := "nonNegative", desc := "(D)Z" } : Jvm.MethodName) prog_95_method_16_code (2 : Nat) (Option.some Jvm.ClassFile.FieldType.boolean)).before args0 about1 = true := code_word (m := ⟨4, 1⟩) (meth := k4m1) (c := k4c1) (by decide +kernel) rfl rfl rfl (by decide +kernel)
set_option maxRecDepth 65536 in
theorem w_c6 : (Jvm.Cond.code ({ cls := "com/example/heraldmesh/heraldmesh/plan/Tradeoffs$Cluster", name := "savedAbove", desc := "(D)D" } : Jvm.MethodName) prog_96_method_3_code (5 : Nat) (Option.some Jvm.ClassFile.FieldType.double)).before args0 about1 = true := code_word (m := ⟨3, 1⟩) (meth := k3m1) (c := k3c1) (by decide +kernel) rfl rfl rfl (by decide +kernel)
set_option maxRecDepth 65536 in
theorem w_c7 : (Jvm.Cond.code ({ cls := "java/lang/Math", name := "min", desc := "(JJ)J" } : Jvm.MethodName) jdk_29_method_70_code (4 : Nat) (Option.some Jvm.ClassFile.FieldType.long)).before args0 about1 = true := code_word (m := ⟨5, 2⟩) (meth := k5m2) (c := k5c2) (by decide +kernel) rfl rfl rfl (by decide +kernel)
set_option maxRecDepth 65536 in
theorem w_c8 : (Jvm.Cond.code ({ cls := "java/lang/Math", name := "max", desc := "(JJ)J" } : Jvm.MethodName) jdk_29_method_66_code (4 : Nat) (Option.some Jvm.ClassFile.FieldType.long)).before args0 about1 = true := code_word (m := ⟨5, 1⟩) (meth := k5m1) (c := k5c1) (by decide +kernel) rfl rfl rfl (by decide +kernel)
def codes1 : List Jvm.Cond := [Jvm.Cond.code x code maxLocals ret, Jvm.Cond.code ({ cls := "com/example/heraldmesh/heraldmesh/plan/Tradeoffs$Cluster", name := "<init>", desc := "(IDDDD)V" } : Jvm.MethodName) prog_96_method_1_code (10 : Nat) (Option.none : Option Jvm.ClassFile.FieldType), Jvm.Cond.code ({ cls := "java/lang/Record", name := "<init>", desc := "()V" } : Jvm.MethodName) jdk_30_method_1_code (1 : Nat) (Option.none : Option Jvm.ClassFile.FieldType), Jvm.Cond.code ({ cls := "java/lang/Object", name := "<init>", desc := "()V" } : Jvm.MethodName) object_method_1_code (1 : Nat) (Option.none : Option Jvm.ClassFile.FieldType), Jvm.Cond.code ({ cls := "com/example/heraldmesh/heraldmesh/plan/Tradeoffs", name := "positive", desc := "(D)Z" } : Jvm.MethodName) prog_95_method_15_code (2 : Nat) (Option.some Jvm.ClassFile.FieldType.boolean), Jvm.Cond.code ({ cls := "com/example/heraldmesh/heraldmesh/plan/Tradeoffs", name := "nonNegative", desc := "(D)Z" } : Jvm.MethodName) prog_95_method_16_code (2 : Nat) (Option.some Jvm.ClassFile.FieldType.boolean), Jvm.Cond.code ({ cls := "com/example/heraldmesh/heraldmesh/plan/Tradeoffs$Cluster", name := "savedAbove", desc := "(D)D" } : Jvm.MethodName) prog_96_method_3_code (5 : Nat) (Option.some Jvm.ClassFile.FieldType.double), Jvm.Cond.code ({ cls := "java/lang/Math", name := "min", desc := "(JJ)J" } : Jvm.MethodName) jdk_29_method_70_code (4 : Nat) (Option.some Jvm.ClassFile.FieldType.long), Jvm.Cond.code ({ cls := "java/lang/Math", name := "max", desc := "(JJ)J" } : Jvm.MethodName) jdk_29_method_66_code (4 : Nat) (Option.some Jvm.ClassFile.FieldType.long)]
set_option maxRecDepth 65536 in
theorem codes_eq : words1.filter isCode = codes1 := rfl
theorem w_codes : ∀ c ∈ words1.filter isCode, c.before args0 about1 = true := by
  rw [codes_eq]
  intro c hc
  simp only [codes1, List.mem_cons, List.not_mem_nil, or_false] at hc
  rcases hc with rfl | rfl | rfl | rfl | rfl | rfl | rfl | rfl | rfl
  · exact w_c0
  · exact w_c1
  · exact w_c2
  · exact w_c3
  · exact w_c4
  · exact w_c5
  · exact w_c6
  · exact w_c7
  · exact w_c8
set_option maxRecDepth 65536 in
theorem w_t1 : (words1.take 24).all (fun c => isCode c || c.before args0 about1) = true := by decide +kernel
set_option maxRecDepth 65536 in
theorem w_t2 : ((words1.drop 24).take 24).all (fun c => isCode c || c.before args0 about1) = true := by decide +kernel
set_option maxRecDepth 65536 in
theorem w_t3 : ((words1.drop 24).drop 24).all (fun c => isCode c || c.before args0 about1) = true := by decide +kernel
theorem w_tables : (allAtoms (Jvm.Cond.code x code maxLocals ret :: tables_1)).before args0 about1 = true := by
  rw [allAtoms_all]
  show words1.all (fun c => c.before args0 about1) = true
  refine all_split ?_ w_codes
  rw [← List.take_append_drop 24 words1, List.all_append, w_t1, ← List.take_append_drop 24 (words1.drop 24), List.all_append, w_t2, w_t3]
  rfl
set_option maxRecDepth 65536 in
theorem w_case : (Jvm.Cond.and given_1 narrow_1).before args0 about1 = true := by decide +kernel
theorem w_applies : (headSpec (Jvm.Cond.code x code maxLocals ret :: tables_1) room_1).applies x e0.platform about1 = true :=
  (Spec.applies_iff w_frames).mpr ⟨w_running, w_runnable, w_alone, w_named, w_hears, w_ripe, w_room, w_tables⟩
theorem atStart : AtStart classFile x code maxLocals ret World_1 tables_1 room_1 Calls_1 rest_1 Pre_1 launch0 p0 e0 about1 theMethod args0 below0 :=
  ⟨lists_1, trivial, launch0.admits_env _ _ _, launch0.least_env, fairChoices_fair.cas, fairChoices_fair.clock, w_frames, w_args, w_heap, w_applies, trivial, trivial, w_case⟩
end start1
theorem witness_1 : WitnessClaimed_1 := ⟨start1.p0, start1.e0, start1.about1, start1.theMethod, start1.args0, start1.below0, start1.atStart⟩
end Jvm.Pilot.@@N@@
