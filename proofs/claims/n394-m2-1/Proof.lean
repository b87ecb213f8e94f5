import JvmDerived
import JvmDerived.Pilot.@@N@@Statement
import JvmDerived.Pilot.@@N@@Code
set_option linter.unusedVariables false
set_option linter.unusedSimpArgs false
namespace Jvm.Pilot.@@N@@
open Jvm Jvm.ClassFile Sem Op Lib Jvm.Free Jvm.Stand Jvm.LawKit Jvm.RoadKit Bundle Jvm.Pilot.@@N@@.Jvm.D
abbrev own_H (a0 : Array Value) (Z : State) : Prop := ∀ d ∈ tables_1, d.before a0 Z = true
def own_Fin (p : Program) (e : Env) (below : List Frame) (P : State → Outcome → Prop) (a : State) : Prop := ∃ t o, Steps p.tables e below a t ∧ t.status = .running ∧ Ended t below o ∧ P t o
theorem own_fin {p : Program} {e : Env} {below : List Frame} {P : State → Outcome → Prop} {a b : State} (k : ∀ t, Steps p.tables e below b t → Steps p.tables e below a t) (h : own_Fin p e below P b) : own_Fin p e below P a := by
  obtain ⟨t, o, s, r⟩ := h
  exact ⟨t, o, k t s, r⟩
theorem own_rw {T : State} {h : Heap} {a : Addr} {c : Cell} (e : T.heap = h) (q : h[a]? = some c) : T.heap[a]? = some c := by rw [e]; exact q
theorem own_StaKeep {Z : State} {h : Heap} {C n d : String} {v : Value} {n0 : Nat} (O : Old Z n0 h) (F : Sta Z Z.heap C n d v) : Sta Z h C n d v := F.ext O.2

theorem jk {Z : State} {a0 : Array Value} {d : Jvm.Cond} (hw : own_H a0 Z) (i : Nat) (h : tables_1[i]? = some d) : d.before a0 Z = true := hw d (List.mem_of_getElem? h)
theorem jm {Z s : State} {a0 args : Array Value} {d : Jvm.Cond} (hZ : Z.Warmed39 s.vm) (hw : own_H a0 Z) (i : Nat) (h : tables_1[i]? = some d) (hd : (d.onTables && d.keepsFace) = true := by first | rfl | simp [Cond.onTables, Cond.keepsFace, Cond.keeps, Cond.steady]) : d.before args s = true := mvT hZ (jk hw i h) hd
theorem jg {p : Program} {e : Env} {below : List Frame} {P : State → Outcome → Prop} {a : State} (T : State) (m : MethodId) (pc : Nat) (L : Array Slot) (S : List Value) (k : ∀ t, Steps p.tables e below (T.setTop (mkF m pc L S)) t → Steps p.tables e below a t) (h : own_Fin p e below P (T.setTop (mkF m pc L S))) : own_Fin p e below P a := own_fin k h
abbrev own_P (s : State) (R : Room) (Qq : Option Value → Heap → List Loc → Prop) : State → Outcome → Prop := fun tT oO => ∃ vV lA, oO = .returned vV ∧ Qq vV tT.heap lA ∧ FrameEnd s oO tT lA R.cells R.slots
section OwnR
variable {p : Program} {l : Launch} {e : Env} {R : Room} {s : State} {m : MethodId} {args : Array Value} {below : List Frame} {meth : Method} {c : Code} {T : State} {locs : List Loc} {cells slots : Nat} {h : Heap} {Qq : Option Value → Heap → List Loc → Prop} {pc : Nat} {L : Array Slot}
theorem own_rV (X : Stand p l e R s m args below meth c T locs cells slots) (hx : p.tables.exec = Jvm.exec) (hlk : meth.locks = false) (hret : meth.sig.returnType = none) (hd : decode c.code pc = .ok (.return_, 1)) (eT : T.heap = h) (hc : cells ≤ R.cells) (hs : slots ≤ R.slots) (q : Qq (none) h locs) : own_Fin p e below (own_P s R Qq) (T.setTop (mkF m pc L [])) := by
  obtain ⟨fs, hr, hrun, hended, hW, hsame⟩ := X.leave (v := none) (fun _ => rfl) hlk
  refine ⟨_, _, X.returnOut hx hret hd hr, hrun, hended, _, _, rfl, ?_, ⟨_, rfl⟩, hW, hsame.mono hc hs⟩
  show Qq _ T.heap locs
  rw [eT]; exact q
theorem own_rN (X : Stand p l e R s m args below meth c T locs cells slots) (hx : p.tables.exec = Jvm.exec) (hlk : meth.locks = false) {z : Int32} {t : FieldType} {rest : List Value} (hret : meth.sig.returnType = some t) (ht : t = .boolean ∨ t = .byte ∨ t = .char ∨ t = .short) (hd : decode c.code pc = .ok (.ireturn, 1)) (eT : T.heap = h) (hc : cells ≤ R.cells) (hs : slots ≤ R.slots) (q : Qq (some (.int (nar t z))) h locs) : own_Fin p e below (own_P s R Qq) (T.setTop (mkF m pc L (.int z :: rest))) := by
  obtain ⟨fs, hr, hrun, hended, hW, hsame⟩ := X.leave (v := some (.int (nar t z))) (fun q => by rw [hret] at q; cases q) hlk
  refine ⟨_, _, retN X hx hret ht hd hr, hrun, hended, _, _, rfl, ?_, ⟨_, rfl⟩, hW, hsame.mono hc hs⟩
  show Qq _ T.heap locs
  rw [eT]; exact q
theorem own_rr (X : Stand p l e R s m args below meth c T locs cells slots) (hx : p.tables.exec = Jvm.exec) (hlk : meth.locks = false) {w : Value} {t : FieldType} {i : Instr} {rest : List Value} (hret : meth.sig.returnType = some t) (hn : narrow t w = w) (hi : (i = .ireturn ∧ (t = .int ∨ t = .boolean ∨ t = .byte ∨ t = .char ∨ t = .short) ∧ ∃ z, w = .int z) ∨ (i = .lreturn ∧ t = .long ∧ ∃ z, w = .long z) ∨ (i = .dreturn ∧ t = .double ∧ ∃ z, w = .double z) ∨ (i = .freturn ∧ t = .float ∧ ∃ z, w = .float z) ∨ (i = .areturn ∧ t.isReference = true ∧ w.isRef = true)) (hd : decode c.code pc = .ok (i, 1)) (eT : T.heap = h) (hc : cells ≤ R.cells) (hs : slots ≤ R.slots) (q : Qq (some w) h locs) : own_Fin p e below (own_P s R Qq) (T.setTop (mkF m pc L (w :: rest))) := by
  obtain ⟨fs, hr, hrun, hended, hW, hsame⟩ := X.leave (v := some w) (fun q => by rw [hret] at q; cases q) hlk
  refine ⟨_, _, retOut X hx hret hn hi hd hr, hrun, hended, _, _, rfl, ?_, ⟨_, rfl⟩, hW, hsame.mono hc hs⟩
  show Qq _ T.heap locs
  rw [eT]; exact q
theorem own_rL (X : Stand p l e R s m args below meth c T locs cells slots) (hx : p.tables.exec = Jvm.exec) (hlk : meth.locks = false) {z : Int32} {t : FieldType} {rest : List Value} (hret : meth.sig.returnType = some t) (ht : t = .boolean ∨ t = .byte ∨ t = .char ∨ t = .short) (hd : decode c.code pc = .ok (.ireturn, 1)) {w : Value} (hv : Value.int (nar t z) = w) (eT : T.heap = h) (hc : cells ≤ R.cells) (hs : slots ≤ R.slots) (q : Qq (some w) h locs) : own_Fin p e below (own_P s R Qq) (T.setTop (mkF m pc L (.int z :: rest))) := by
  subst hv
  exact own_rN X hx hlk hret ht hd eT hc hs q
end OwnR
abbrev own_Met (lL : Launch) (y : MethodName) (cs : List Jvm.Cond) (R : Room) (A : Array Value) (Z : State) (h0 : Heap) (Qq : Option Value → Heap → List Loc → Prop) : Prop := MetFree lL y (head1 cs R) (fun aA uU => aA = A ∧ Z.Warmed39 uU.vm ∧ uU.heap = h0) (fun _ _ _ _ _ => True) (fun _ uU oO uU' => ∃ vV lA, oO = .returned vV ∧ Qq vV uU'.heap lA ∧ FrameEnd uU oO uU' lA R.cells R.slots)
theorem own_begin {lL : Launch} {Z : State} {y : MethodName} {bytes : ByteArray} {maxL : Nat} {ret : Option FieldType} {ws : List Jvm.Cond} {R : Room} {A : Array Value} {h0 : Heap} {Qq : Option Value → Heap → List Loc → Prop} {L : Array Slot} (pl : plainFor y = true) (ef : ∀ mM : MethodId, entryFrame mM A maxL = mkF mM 0 L [])
    (k : ∀ pP eE sS mM below meth cC s₁, pP.tables.exec = Jvm.exec → cC.code = bytes → cC.maxLocals = maxL → Z.Warmed39 sS.vm → sS.vm.findClass y.cls = some mM.cls → meth.name = y.name → meth.sig.returnType = ret → meth.locks = false → Stand pP lL eE R sS mM A below meth cC s₁ [] 0 0 → s₁.heap = h0 → own_Fin pP eE below (own_P sS R Qq) (s₁.setTop (mkF mM 0 L []))) : own_Met lL y (Jvm.Cond.code y bytes maxL ret :: ws) R A Z h0 Qq := by
  refine MetFree.of_bodySF pl hisR ?_
  intro pP eE sS mM args below meth cC s₁ Bd hml0 hP hK
  obtain ⟨rfl, hZ, hh⟩ := hP
  have e0 : s₁.heap = h0 := by rw [← hh, Bd.state]; rfl
  exact own_fin (fun tT kK => castTop (ef mM) kK) (k pP eE sS mM below meth cC s₁ Bd.exec Bd.bytes hml0 hZ (findClass_of_methodNamed Bd.named) (name_of_methodNamed Bd.named Bd.method).1 Bd.returns Bd.notSynchronized (Stand.of_body Bd) e0)
section OwnW
variable {p : Program} {l : Launch} {e : Env} {R : Room} {Z s : State} {a0 : Array Value} {m : MethodId} {args : Array Value} {below : List Frame} {meth : Method} {c : Code} {T : State} {locs : List Loc} {cells slots : Nat} {h : Heap} {P : State → Outcome → Prop}
theorem jf (X : Stand p l e R s m args below meth c T locs cells slots) (hx : p.tables.exec = Jvm.exec) (hZ : Z.Warmed39 s.vm) {own O n d : String} {index : Nat} (hown : s.vm.findClass own = some m.cls) (w : (Cond.fieldLink own index O n d).before a0 Z = true) (eT : T.heap = h) {a : Addr} {v : Value} (F : Fld Z h a O n d v) {pc : Nat} {L : Array Slot} {rest : List Value} (hd : decode c.code pc = .ok (.getfield index, 3)) (k : ∀ T', Stand p l e R s m args below meth c T' locs cells slots → T'.heap = h → own_Fin p e below P (T'.setTop (mkF m (pc + 3) L (v :: rest)))) : own_Fin p e below P (T.setTop (mkF m pc L (.ref a :: rest))) := by
  obtain ⟨T', X', e', st⟩ := getF (host := "") X hx hZ hown (Or.inl w) Via.refl eT F (g := mkF m pc L (.ref a :: rest)) rfl rfl hd
  exact own_fin st (k T' X' e')
theorem jn (X : Stand p l e R s m args below meth c T locs cells slots) (hx : p.tables.exec = Jvm.exec) (hZ : Z.Warmed39 s.vm) {own O n d host : String} {index : Nat} (hown : s.vm.findClass own = some m.cls) (w : (Cond.fieldLinkNest own index O n d host).before a0 Z = true) (eT : T.heap = h) {a : Addr} {v : Value} (F : Fld Z h a O n d v) {pc : Nat} {L : Array Slot} {rest : List Value} (hd : decode c.code pc = .ok (.getfield index, 3)) (k : ∀ T', Stand p l e R s m args below meth c T' locs cells slots → T'.heap = h → own_Fin p e below P (T'.setTop (mkF m (pc + 3) L (v :: rest)))) : own_Fin p e below P (T.setTop (mkF m pc L (.ref a :: rest))) := by
  obtain ⟨T', X', e', st⟩ := getF X hx hZ hown (Or.inr w) Via.refl eT F (g := mkF m pc L (.ref a :: rest)) rfl rfl hd
  exact own_fin st (k T' X' e')
theorem jq (X : Stand p l e R s m args below meth c T locs cells slots) (hx : p.tables.exec = Jvm.exec) (hZ : Z.Warmed39 s.vm) {own O n d C : String} {index kk : Nat} {ty : FieldType} (hown : s.vm.findClass own = some m.cls) (w : (Cond.fieldLink own index O n d).before a0 Z = true) (eT : T.heap = h) {a : Addr} {v old : Value} (F : Fld Z h a O n d old) (E : Exa Z h a C) (L0 : (Cond.lays C O n d).before a0 Z = true) (wi : (Cond.instantiable C kk).before a0 Z = true) (ht : parseFieldDescriptor d = some ty) (hn : narrow ty v = v) (hf : fits ty v = true) {pc : Nat} {L : Array Slot} {rest : List Value} (hd : decode c.code pc = .ok (.putfield index, 3)) {n0 : Nat} {h0 : Heap} {ws : List Addr} (K : Keep h0 h ws) (N : Fr n0 locs) (hm : a ∈ ws ∨ h0.size ≤ a) (ge : n0 ≤ a)
    (k : ∀ T' h', Stand p l e R s m args below meth c T' (locs ++ [⟨a, RoadKit.slotOf Z O n d⟩]) cells slots → T'.heap = h' → Wr h h' a (RoadKit.slotOf Z O n d) v → Fld Z h' a O n d v → Keep h0 h' ws → Fr n0 (locs ++ [⟨a, RoadKit.slotOf Z O n d⟩]) → own_Fin p e below P (T'.setTop (mkF m (pc + 3) L rest))) : own_Fin p e below P (T.setTop (mkF m pc L (v :: .ref a :: rest))) := by
  obtain ⟨T', h', X', e', W, st⟩ := putF (host := "") X hx hZ hown (Or.inl w) Via.refl eT F E (Or.inl L0) wi ht hn hf (g := mkF m pc L (v :: .ref a :: rest)) rfl rfl hd
  exact own_fin st (k T' h' X' e' W (F.same W) (K.wr W hm) (Fr.snoc X' N ge))
theorem jv (X : Stand p l e R s m args below meth c T locs cells slots) (hx : p.tables.exec = Jvm.exec) (hZ : Z.Warmed39 s.vm) {own C : String} {index : Nat} {y : MethodName} {bytes : ByteArray} {maxL : Nat} {ret : Option FieldType} {rm : Room} {A : Array Value} {Qq : Option Value → Heap → List Loc → Prop} (hown : s.vm.findClass own = some m.cls) (w1 : (Cond.methodLink own index y).before a0 Z = true) (w2 : (Cond.declares y).before a0 Z = true) (w3 : (Cond.selects C y y).before a0 Z = true) (w4 : (Cond.instanceMethod y).before a0 Z = true) (wc : (Cond.code y bytes maxL ret).before a0 Z = true) (wz : (Cond.initialized y.cls).before a0 Z = true) (con : own_Met l y [Cond.code y bytes maxL ret] rm A Z h Qq) {a : Addr} (E : Exa Z h a C) (eT : T.heap = h) {ps : List FieldType} {r : Option FieldType} (hd : parseMethodDescriptor y.desc = some ⟨ps, r⟩) {pc : Nat} {L : Array Slot} (argsL rest : List Value) (hdg : decode c.code pc = .ok (.invokevirtual index, 3)) (hA : (.ref a :: argsL).toArray = A) (hl : argsL.length = ps.length) (hsz : L.size = c.maxLocals) (hy : y.cls ≠ "java/lang/invoke/MethodHandle" ∧ y.cls ≠ "java/lang/invoke/VarHandle") (W : Nat) (hW : (rest.map fun v => v.category).sum ≤ W) (hf : rm.frames + 1 ≤ R.frames) (hlo : W + (maxL + 11) + rm.locals ≤ R.locals) (hc : cells + rm.cells ≤ R.cells) (hs : slots + rm.slots ≤ R.slots) (k : ∀ (v : Option Value) (T' : State) (L' : List Loc), Stand p l e R s m args below meth c T' (locs ++ L') (cells + rm.cells) (slots + rm.slots) → Qq v T'.heap L' → own_Fin p e below P (T'.setTop (mkF m (pc + 3) L (v.toList ++ rest)))) : own_Fin p e below P (T.setTop (mkF m pc L (argsL.reverse ++ .ref a :: rest))) := by
  obtain ⟨cB, kB, qa, qb, qc⟩ := isOf hZ eT E
  obtain ⟨v, vm₁, ⟨T', L', k', n'⟩, -, X', ⟨Lc, hQ, e1, e2, e3⟩, st⟩ := X.virtualBack hx (y := y) (z := y) hown (mvT hZ w1) (mvT hZ w2) (notFace_of_selects (args := #[]) (mvT hZ w3)) (mvT hZ w3) (mvT hZ w4) hy (backOf (W := W) con hZ wc wz hf hlo) qa qc (g := mkF m pc L (argsL.reverse ++ .ref a :: rest)) rfl hsz (Steps.refl _) (argsL := argsL) (rest := rest) (lenOf hd hl) rfl (by show 2 * 0 + _ ≤ _; omega) hdg (fun _ _ => ⟨hA, eT, hc, hs⟩)
  dsimp only [Pt.U, Pt.locs, Pt.cells, Pt.slots] at X' e1 e2 e3 st hQ
  subst e1 e2 e3
  exact own_fin (fun t q => st.trans q) (k v T' Lc X' hQ)
theorem jw (X : Stand p l e R s m args below meth c T locs cells slots) (hx : p.tables.exec = Jvm.exec) (hZ : Z.Warmed39 s.vm) {own C : String} {index : Nat} {y : MethodName} {bytes : ByteArray} {maxL : Nat} {ret : Option FieldType} {rm : Room} {A : Array Value} {Qq : Option Value → Heap → List Loc → Prop} (hown : s.vm.findClass own = some m.cls) (w1 : (Cond.methodLink own index y).before a0 Z = true) (w4 : (Cond.instanceMethod y).before a0 Z = true) (hsel : (Cond.selects y.cls y y).before args s = true) (wp : (Cond.privateMethod y).before a0 Z = true) (wc : (Cond.code y bytes maxL ret).before a0 Z = true) (wz : (Cond.initialized y.cls).before a0 Z = true) (con : own_Met l y [Cond.code y bytes maxL ret] rm A Z h Qq) {a : Addr} (E : Exa Z h a C) (eT : T.heap = h) {ps : List FieldType} {r : Option FieldType} (hd : parseMethodDescriptor y.desc = some ⟨ps, r⟩) {pc : Nat} {L : Array Slot} (argsL rest : List Value) (hdg : decode c.code pc = .ok (.invokevirtual index, 3)) (hA : (.ref a :: argsL).toArray = A) (hl : argsL.length = ps.length) (hsz : L.size = c.maxLocals) (hy : y.cls ≠ "java/lang/invoke/MethodHandle" ∧ y.cls ≠ "java/lang/invoke/VarHandle") (W : Nat) (hW : (rest.map fun v => v.category).sum ≤ W) (hf : rm.frames + 1 ≤ R.frames) (hlo : W + (maxL + 11) + rm.locals ≤ R.locals) (hc : cells + rm.cells ≤ R.cells) (hs : slots + rm.slots ≤ R.slots) (k : ∀ (v : Option Value) (T' : State) (L' : List Loc), Stand p l e R s m args below meth c T' (locs ++ L') (cells + rm.cells) (slots + rm.slots) → Qq v T'.heap L' → own_Fin p e below P (T'.setTop (mkF m (pc + 3) L (v.toList ++ rest)))) : own_Fin p e below P (T.setTop (mkF m pc L (argsL.reverse ++ .ref a :: rest))) := by
  obtain ⟨cq, q, q'⟩ := E.cell
  obtain ⟨v, vm₁, ⟨T', L', k', n'⟩, -, X', ⟨Lc, hQ, e1, e2, e3⟩, st⟩ := X.privateBack hx (y := y) hown (mvT hZ w1) (mvT hZ w4) hsel (Cond.privateMethod_at (mvP hZ wp (args := #[]))) (mvT hZ wc) hy (backOf (W := W) con hZ wc wz hf hlo) (g := mkF m pc L (argsL.reverse ++ .ref a :: rest)) rfl hsz (Steps.refl _) (a := a) (by rw [eT]; exact q) q' (argsL := argsL) (rest := rest) (lenOf hd hl) rfl (by show 2 * 0 + _ ≤ _; omega) hdg (fun _ _ => ⟨hA, eT, hc, hs⟩)
  dsimp only [Pt.U, Pt.locs, Pt.cells, Pt.slots] at X' e1 e2 e3 st hQ
  subst e1 e2 e3
  exact own_fin (fun t q => st.trans q) (k v T' Lc X' hQ)
theorem own_sb (X : Stand p l e R s m args below meth c T locs cells slots) (hx : p.tables.exec = Jvm.exec) (hZ : Z.Warmed39 s.vm) {own : String} {index : Nat} {y : MethodName} {bytes : ByteArray} {maxL : Nat} {rm : Room} {A : Array Value} {Qq : Option Value → Heap → List Loc → Prop} (hy1 : y.name = "<init>") (hown : s.vm.findClass own = some m.cls) (w1 : (Cond.methodLink own index y).before a0 Z = true) (w4 : (Cond.instanceMethod y).before a0 Z = true) (wc : (Cond.code y bytes maxL none).before a0 Z = true) (wz : (Cond.initialized y.cls).before a0 Z = true) (con : own_Met l y [Cond.code y bytes maxL none] rm A Z h Qq) {a : Addr} (eT : T.heap = h) {ps : List FieldType} {r : Option FieldType} (hd : parseMethodDescriptor y.desc = some ⟨ps, r⟩) {pc : Nat} {L : Array Slot} (argsL rest : List Value) (hdg : decode c.code pc = .ok (.invokespecial index, 3)) (hA : (.ref a :: argsL).toArray = A) (hl : argsL.length = ps.length) (hsz : L.size = c.maxLocals) (hy : y.cls ≠ "java/lang/invoke/MethodHandle" ∧ y.cls ≠ "java/lang/invoke/VarHandle") (W : Nat) (hW : (rest.map fun v => v.category).sum ≤ W) (hf : rm.frames + 1 ≤ R.frames) (hlo : W + (maxL + 11) + rm.locals ≤ R.locals) (hc : cells + rm.cells ≤ R.cells) (hs : slots + rm.slots ≤ R.slots) (k : ∀ (v : Option Value) (T' : State) (L' : List Loc), Stand p l e R s m args below meth c T' (locs ++ L') (cells + rm.cells) (slots + rm.slots) → Qq v T'.heap L' → own_Fin p e below P (T'.setTop (mkF m (pc + 3) L (v.toList ++ rest)))) : own_Fin p e below P (T.setTop (mkF m pc L (argsL.reverse ++ .ref a :: rest))) := by
  obtain ⟨v, vm₁, ⟨T', L', k', n'⟩, -, X', ⟨Lc, hQ, e1, e2, e3⟩, st⟩ := X.specialBack hx (y := y) hy1 hown (mvT hZ w1) (mvT hZ w4) (mvT hZ wc) hy (backOf (W := W) con hZ wc wz hf hlo) (g := mkF m pc L (argsL.reverse ++ .ref a :: rest)) rfl hsz (Steps.refl _) (a := a) (argsL := argsL) (rest := rest) (lenOf hd hl) rfl (by show 2 * 0 + _ ≤ _; omega) hdg (fun _ _ => ⟨hA, eT, hc, hs⟩)
  dsimp only [Pt.U, Pt.locs, Pt.cells, Pt.slots] at X' e1 e2 e3 st hQ
  subst e1 e2 e3
  exact own_fin (fun t q => st.trans q) (k v T' Lc X' hQ)
theorem jc (X : Stand p l e R s m args below meth c T locs cells slots) (hx : p.tables.exec = Jvm.exec) (hZ : Z.Warmed39 s.vm) {own : String} {index : Nat} {y : MethodName} {bytes : ByteArray} {maxL : Nat} {ret : Option FieldType} {rm : Room} {A : Array Value} {Qq : Option Value → Heap → List Loc → Prop} (hown : s.vm.findClass own = some m.cls) (w1 : (Cond.methodLink own index y).before a0 Z = true) (w2 : (Cond.static y).before a0 Z = true) (wz : (Cond.initialized y.cls).before a0 Z = true) (wc : (Cond.code y bytes maxL ret).before a0 Z = true) (con : own_Met l y [Cond.code y bytes maxL ret] rm A Z h Qq) (eT : T.heap = h) {ps : List FieldType} {r : Option FieldType} (hd : parseMethodDescriptor y.desc = some ⟨ps, r⟩) {pc : Nat} {L : Array Slot} (argsL rest : List Value) (hdg : decode c.code pc = .ok (.invokestatic index, 3)) (hA : argsL.toArray = A) (hl : argsL.length = ps.length) (hsz : L.size = c.maxLocals) (hy : y.cls ≠ "java/lang/invoke/MethodHandle" ∧ y.cls ≠ "java/lang/invoke/VarHandle") (W : Nat) (hW : (rest.map fun v => v.category).sum ≤ W) (hf : rm.frames + 1 ≤ R.frames) (hlo : W + (maxL + 11) + rm.locals ≤ R.locals) (hc : cells + rm.cells ≤ R.cells) (hs : slots + rm.slots ≤ R.slots) (k : ∀ (v : Option Value) (T' : State) (L' : List Loc), Stand p l e R s m args below meth c T' (locs ++ L') (cells + rm.cells) (slots + rm.slots) → Qq v T'.heap L' → own_Fin p e below P (T'.setTop (mkF m (pc + 3) L (v.toList ++ rest)))) : own_Fin p e below P (T.setTop (mkF m pc L (argsL.reverse ++ rest))) := by
  obtain ⟨v, vm₁, ⟨T', L', k', n'⟩, -, X', ⟨Lc, hQ, e1, e2, e3⟩, st⟩ := Jvm.LawKit.callS X hx hown (mvT hZ w1) (mvT hZ w2) (mvT hZ wz) (mvT hZ wc) hy (backOf (W := W) con hZ wc wz hf hlo) (g := mkF m pc L (argsL.reverse ++ rest)) rfl hsz (lenOf hd hl) rfl (by show 2 * 0 + _ ≤ _; omega) hdg (fun _ _ => ⟨hA, eT, hc, hs⟩)
  dsimp only [Pt.U, Pt.locs, Pt.cells, Pt.slots] at X' e1 e2 e3 st hQ
  subst e1 e2 e3
  exact own_fin (fun t q => st t q) (k v T' Lc X' hQ)
end OwnW
abbrev vU : Slot := .unset
abbrev vS : Slot := .second
abbrev vI (x : Int32) : Slot := .val (.int x)
abbrev vJ (x : Int64) : Slot := .val (.long x)
abbrev vR (x : Addr) : Slot := .val (.ref x)
abbrev vN : Slot := .val .null
abbrev jy0 : MethodName := (⟨"java/lang/String", "coder", "()B"⟩ : MethodName)
abbrev jy1 : MethodName := (⟨"java/lang/String", "length", "()I"⟩ : MethodName)
abbrev jy2 : MethodName := (⟨"jdk/internal/util/Preconditions", "checkIndex", "(IILjava/util/function/BiFunction;)I"⟩ : MethodName)
abbrev jy3 : MethodName := (⟨"java/lang/String", "checkIndex", "(II)V"⟩ : MethodName)
abbrev jy4 : MethodName := (⟨"java/lang/String", "isLatin1", "()Z"⟩ : MethodName)
abbrev jy5 : MethodName := (⟨"java/lang/StringLatin1", "charAt", "([BI)C"⟩ : MethodName)
abbrev jy6 : MethodName := (⟨"java/lang/String", "charAt", "(I)C"⟩ : MethodName)
abbrev jy7 : MethodName := (⟨"java/lang/StringUTF16", "compress", "([CI[BII)I"⟩ : MethodName)
abbrev jy8 : MethodName := (⟨"java/lang/StringUTF16", "compress", "([CII)[B"⟩ : MethodName)
abbrev jy9 : MethodName := (⟨"java/lang/StringUTF16", "coderFromArrayLen", "([BI)B"⟩ : MethodName)
abbrev jy10 : MethodName := (⟨"java/lang/String", "<init>", "([CIILjava/lang/Void;)V"⟩ : MethodName)
abbrev jy11 : MethodName := (⟨"java/lang/String", "<init>", "([C)V"⟩ : MethodName)
abbrev jy12 : MethodName := (⟨"java/lang/StringLatin1", "canEncode", "(I)Z"⟩ : MethodName)
abbrev jy13 : MethodName := (⟨"java/lang/Math", "max", "(II)I"⟩ : MethodName)
abbrev jy14 : MethodName := (⟨"java/lang/Math", "min", "(II)I"⟩ : MethodName)
abbrev jy15 : MethodName := (⟨"java/lang/StringLatin1", "indexOfChar", "([BIII)I"⟩ : MethodName)
abbrev jy16 : MethodName := (⟨"java/lang/StringLatin1", "indexOf", "([BIII)I"⟩ : MethodName)
abbrev jy17 : MethodName := (⟨"java/lang/String", "indexOf", "(II)I"⟩ : MethodName)
abbrev jy18 : MethodName := (⟨"java/lang/String", "indexOf", "(I)I"⟩ : MethodName)
abbrev jy19 : MethodName := (⟨"java/lang/Math", "min", "(JJ)J"⟩ : MethodName)
abbrev jy20 : MethodName := (⟨"com/example/vestwright/vestwright/InputNumbers", "exponentMark", "(Ljava/lang/String;)I"⟩ : MethodName)
abbrev jy21 : MethodName := (⟨"com/example/vestwright/vestwright/InputNumbers", "exponent", "(Ljava/lang/String;I)J"⟩ : MethodName)
abbrev jy22 : MethodName := (⟨"com/example/vestwright/vestwright/InputNumbers", "decimals", "(Ljava/lang/String;I)J"⟩ : MethodName)
abbrev jy23 : MethodName := (⟨"com/example/vestwright/vestwright/InputNumbers", "isInRange", "(Ljava/lang/String;)Z"⟩ : MethodName)
abbrev jy24 : MethodName := (⟨"com/example/vestwright/vestwright/InputNumbersIsInRangePinLaw", "nonZero", "(I)C"⟩ : MethodName)
abbrev jy25 : MethodName := (⟨"com/example/vestwright/vestwright/InputNumbersIsInRangePinLaw", "dig", "(I)C"⟩ : MethodName)
abbrev jy26 : MethodName := (⟨"com/example/vestwright/vestwright/InputNumbersIsInRangePinLaw", "dec", "(JJ)C"⟩ : MethodName)
abbrev jr0 : Room := ({ frames := 0, cells := 0, slots := 0, locals := 0 } : Room)
abbrev jr1 : Room := ({ frames := 1, cells := 0, slots := 0, locals := 13 } : Room)
abbrev jr2 : Room := ({ frames := 1, cells := 0, slots := 0, locals := 14 } : Room)
abbrev jr3 : Room := ({ frames := 2, cells := 0, slots := 0, locals := 27 } : Room)
abbrev jr4 : Room := ({ frames := 3, cells := 0, slots := 0, locals := 40 } : Room)
abbrev jr5 : Room := ({ frames := 1, cells := 1, slots := 19, locals := 18 } : Room)
abbrev jr6 : Room := ({ frames := 2, cells := 1, slots := 19, locals := 35 } : Room)
abbrev jr7 : Room := ({ frames := 3, cells := 1, slots := 19, locals := 52 } : Room)
abbrev jr8 : Room := ({ frames := 1, cells := 0, slots := 0, locals := 17 } : Room)
abbrev jr9 : Room := ({ frames := 2, cells := 0, slots := 0, locals := 32 } : Room)
abbrev jr10 : Room := ({ frames := 3, cells := 0, slots := 0, locals := 46 } : Room)
abbrev jr11 : Room := ({ frames := 4, cells := 0, slots := 0, locals := 59 } : Room)
abbrev jr12 : Room := ({ frames := 4, cells := 0, slots := 0, locals := 53 } : Room)
abbrev jr13 : Room := ({ frames := 2, cells := 0, slots := 0, locals := 26 } : Room)
abbrev jr14 : Room := ({ frames := 5, cells := 0, slots := 0, locals := 72 } : Room)
abbrev jr15 : Room := ({ frames := 6, cells := 0, slots := 0, locals := 86 } : Room)
abbrev jr16 : Room := ({ frames := 5, cells := 0, slots := 0, locals := 74 } : Room)
abbrev jF0 (Z : State) (h : Heap) (a : Addr) (v : Value) : Prop := Fld Z h a "java/lang/String" "coder" "B" v
abbrev jF1 (Z : State) (h : Heap) (a : Addr) (v : Value) : Prop := Fld Z h a "java/lang/String" "value" "[B" v
abbrev jE0 (Z : State) (h : Heap) (a : Addr) : Prop := Exa Z h a "java/lang/String"
abbrev jD0 (pc : Nat) (i : Jvm.ClassFile.Instr × Nat) : Prop := Jvm.ClassFile.decode jdk_42_method_152_code pc = .ok i
abbrev jD1 (pc : Nat) (i : Jvm.ClassFile.Instr × Nat) : Prop := Jvm.ClassFile.decode jdk_42_method_54_code pc = .ok i
abbrev jD2 (pc : Nat) (i : Jvm.ClassFile.Instr × Nat) : Prop := Jvm.ClassFile.decode jdk_41_method_11_code pc = .ok i
abbrev jD3 (pc : Nat) (i : Jvm.ClassFile.Instr × Nat) : Prop := Jvm.ClassFile.decode jdk_42_method_155_code pc = .ok i
abbrev jD4 (pc : Nat) (i : Jvm.ClassFile.Instr × Nat) : Prop := Jvm.ClassFile.decode jdk_42_method_154_code pc = .ok i
abbrev jD5 (pc : Nat) (i : Jvm.ClassFile.Instr × Nat) : Prop := Jvm.ClassFile.decode jdk_43_method_2_code pc = .ok i
abbrev jD6 (pc : Nat) (i : Jvm.ClassFile.Instr × Nat) : Prop := Jvm.ClassFile.decode jdk_42_method_56_code pc = .ok i
abbrev jD7 (pc : Nat) (i : Jvm.ClassFile.Instr × Nat) : Prop := Jvm.ClassFile.decode jdk_52_method_21_code pc = .ok i
abbrev jD8 (pc : Nat) (i : Jvm.ClassFile.Instr × Nat) : Prop := Jvm.ClassFile.decode jdk_52_method_16_code pc = .ok i
abbrev jD9 (pc : Nat) (i : Jvm.ClassFile.Instr × Nat) : Prop := Jvm.ClassFile.decode jdk_52_method_15_code pc = .ok i
abbrev jD10 (pc : Nat) (i : Jvm.ClassFile.Instr × Nat) : Prop := Jvm.ClassFile.decode jdk_42_method_149_code pc = .ok i
abbrev jD11 (pc : Nat) (i : Jvm.ClassFile.Instr × Nat) : Prop := Jvm.ClassFile.decode jdk_42_method_3_code pc = .ok i
abbrev jD12 (pc : Nat) (i : Jvm.ClassFile.Instr × Nat) : Prop := Jvm.ClassFile.decode jdk_43_method_4_code pc = .ok i
abbrev jD13 (pc : Nat) (i : Jvm.ClassFile.Instr × Nat) : Prop := Jvm.ClassFile.decode jdk_29_method_65_code pc = .ok i
abbrev jD14 (pc : Nat) (i : Jvm.ClassFile.Instr × Nat) : Prop := Jvm.ClassFile.decode jdk_29_method_69_code pc = .ok i
abbrev jD15 (pc : Nat) (i : Jvm.ClassFile.Instr × Nat) : Prop := Jvm.ClassFile.decode jdk_43_method_23_code pc = .ok i
abbrev jD16 (pc : Nat) (i : Jvm.ClassFile.Instr × Nat) : Prop := Jvm.ClassFile.decode jdk_43_method_22_code pc = .ok i
abbrev jD17 (pc : Nat) (i : Jvm.ClassFile.Instr × Nat) : Prop := Jvm.ClassFile.decode jdk_42_method_80_code pc = .ok i
abbrev jD18 (pc : Nat) (i : Jvm.ClassFile.Instr × Nat) : Prop := Jvm.ClassFile.decode jdk_42_method_79_code pc = .ok i
abbrev jD19 (pc : Nat) (i : Jvm.ClassFile.Instr × Nat) : Prop := Jvm.ClassFile.decode jdk_29_method_70_code pc = .ok i
abbrev jD20 (pc : Nat) (i : Jvm.ClassFile.Instr × Nat) : Prop := Jvm.ClassFile.decode prog_5_method_9_code pc = .ok i
abbrev jD21 (pc : Nat) (i : Jvm.ClassFile.Instr × Nat) : Prop := Jvm.ClassFile.decode prog_5_method_8_code pc = .ok i
abbrev jD22 (pc : Nat) (i : Jvm.ClassFile.Instr × Nat) : Prop := Jvm.ClassFile.decode prog_5_method_7_code pc = .ok i
abbrev jD23 (pc : Nat) (i : Jvm.ClassFile.Instr × Nat) : Prop := Jvm.ClassFile.decode prog_5_method_4_code pc = .ok i
abbrev jD24 (pc : Nat) (i : Jvm.ClassFile.Instr × Nat) : Prop := Jvm.ClassFile.decode method_3_code pc = .ok i
abbrev jD25 (pc : Nat) (i : Jvm.ClassFile.Instr × Nat) : Prop := Jvm.ClassFile.decode method_4_code pc = .ok i
abbrev jD26 (pc : Nat) (i : Jvm.ClassFile.Instr × Nat) : Prop := Jvm.ClassFile.decode method_5_code pc = .ok i
abbrev jQ0 (Z : State) : Nat := RoadKit.slotOf Z "java/lang/String" "value" "[B"
abbrev jQ1 (Z : State) : Nat := RoadKit.slotOf Z "java/lang/String" "coder" "B"
def own_T (Z : State) (h : Heap) (a : Addr) (ty : FieldType) (z : Int32) (f : Int32 → Int32) : Prop := ∃ c : Cell, Arr Z h a c ty ∧ c.slots.size = z.toNatClampNeg ∧ ¬ z < 0 ∧ ∀ j : Int32, ¬ (j < 0 ∨ c.slots.size ≤ j.toNatClampNeg) → c.slots[j.toNatClampNeg]? = some (.int (f j))
def own_up (f : Int32 → Int32) (j x : Int32) : Int32 → Int32 := fun i => if j = i then x else f i
section OwnT
variable {Z : State} {h h' : Heap} {a b : Addr} {ty : FieldType} {z : Int32} {f g : Int32 → Int32}
theorem own_T.lt (F : own_T Z h a ty z f) : a < h.size := by obtain ⟨c, A, -⟩ := F; exact A.lt
theorem own_T.ext (F : own_T Z h a ty z f) (E : Ext h h') : own_T Z h' a ty z f := by obtain ⟨c, A, r⟩ := F; exact ⟨c, A.ext E, r⟩
theorem own_T.other {sl : Nat} {v : Value} (F : own_T Z h a ty z f) (W : Wr h h' b sl v) (q : a ≠ b) : own_T Z h' a ty z f := by obtain ⟨c, A, r⟩ := F; exact ⟨c, A.other W q, r⟩
theorem own_T.keep {ws : List Addr} (F : own_T Z h a ty z f) (K : Keep h h' ws) (q : a ∉ ws) : own_T Z h' a ty z f := by obtain ⟨c, A, r⟩ := F; exact ⟨c, ⟨K.2.1 a c A.1 q, A.2⟩, r⟩
theorem own_T.congr (F : own_T Z h a ty z f) (q : ∀ j : Int32, ¬ j < 0 ∧ j < z → f j = g j) : own_T Z h a ty z g := by
  obtain ⟨c, A, S, N, H⟩ := F
  refine ⟨c, A, S, N, fun j hj => ?_⟩
  have h1 : ¬ j < 0 := fun y => hj (Or.inl y)
  have h2 : j < z := by
    have h3 : ¬ c.slots.size ≤ j.toNatClampNeg := fun y => hj (Or.inr y)
    rw [S] at h3
    have e1 := nat_of h1
    have e2 := nat_of N
    rw [Int32.lt_iff_toInt_lt]; omega
  rw [H j hj, q j ⟨h1, h2⟩]
theorem own_T.set {j x : Int32} (F : own_T Z h a ty z f) (W : Wr h h' a j.toNatClampNeg (.int x)) (q : ¬ j < 0 ∧ j < z) : own_T Z h' a ty z (own_up f j x) := by
  obtain ⟨c, A, S, N, H⟩ := F
  refine ⟨_, A.same W, by rw [sz_set]; exact S, N, fun i hi => ?_⟩
  rw [sz_set] at hi
  unfold own_up
  by_cases e : j = i
  · rw [if_pos e]; exact get_hit (inb_of S q) e.symm
  · rw [if_neg e, get_miss q.1 (fun y => hi (Or.inl y)) (Ne.symm e)]; exact H i hi
theorem own_T.new {k : ClassId} (A : Arr Z h a (newA k ty z) ty) (q : ¬ z < 0) (d : defaultValue ty = .int 0) : own_T Z h a ty z (fun _ => 0) :=
  ⟨_, A, sz_new _ _ _, q, fun j hj => by rw [← d]; exact get_new (by rw [sz_new] at hj; exact hj)⟩
end OwnT
theorem own_lremM {tb : Tables} [Ours tb] {e : Env} {below : List Frame} {T target : State} {m : MethodId} {c : Code} {g : JFrame} (h : At T m c below) (hx : tb.exec = Jvm.exec) (hg : g.method = m) {x y : Int64} {rest : List Value} (hd : decode c.code g.pc = .ok (.lrem, 1)) (hs : g.stack = .long y :: .long x :: rest) (hy : y ≠ 0)
    (hr : Steps tb e below (T.setTop { g with pc := g.pc + 1, stack := .long (x % y) :: rest }) target) : Steps tb e below (T.setTop g) target :=
  XS.lrem h hx hg hd hs hy (by rw [lrem_mod]; exact hr)
theorem own_T.nn {Z : State} {h : Heap} {a : Addr} {ty : FieldType} {z : Int32} {f : Int32 → Int32} (F : own_T Z h a ty z f) : ¬ z < 0 := by obtain ⟨_, _, _, N, _⟩ := F; exact N
theorem own_bk {z : Int32} (h : ¬ z < 0) : Int32.ofNat z.toNatClampNeg = z := (back32 h).1
theorem own_nlt {z : Int32} (h : ¬ z < 0) : ¬ (Int32.ofNat z.toNatClampNeg < z) := by rw [own_bk h]; exact Int32.lt_irrefl (a := z)
theorem own_i32 {z : Int32} {i : Nat} (h : ¬ z < 0) (q : i < z.toNatClampNeg) : (Int32.ofNat i).toInt = i := by
  have := (back32 h).2
  exact Int32.toInt_ofNat_of_lt (by omega)
theorem own_ltz {z : Int32} {i : Nat} (h : ¬ z < 0) (q : i < z.toNatClampNeg) : Int32.ofNat i < z := by
  rw [Int32.lt_iff_toInt_lt, own_i32 h q, nat_of h]; omega
theorem own_nn {z : Int32} {i : Nat} (h : ¬ z < 0) (q : i < z.toNatClampNeg) : ¬ Int32.ofNat i < 0 := by
  rw [Int32.lt_iff_toInt_lt, own_i32 h q, show (0 : Int32).toInt = 0 from rfl]; omega
theorem own_cl {z : Int32} {i : Nat} (h : ¬ z < 0) (q : i < z.toNatClampNeg) : (Int32.ofNat i).toNatClampNeg = i := by
  rw [Int32.toNatClampNeg, own_i32 h q]; rfl
theorem own_one (i : Nat) : Int32.ofNat i + (1 : Int32) = Int32.ofNat (i + 1) := (Int32.ofNat_add i 1).symm
theorem own_jn {j z : Int32} (h1 : ¬ j < 0) (h0 : ¬ z < 0) (h2 : j < z) : j.toNatClampNeg < z.toNatClampNeg := by
  rw [Int32.lt_iff_toInt_lt, nat_of h1, nat_of h0] at h2; omega
theorem own_inz {z : Int32} {i : Nat} (h : ¬ z < 0) (q : i < z.toNatClampNeg) : ¬ Int32.ofNat i < 0 ∧ Int32.ofNat i < z := ⟨own_nn h q, own_ltz h q⟩
theorem own_upf {g q : Int32 → Int32} {z x : Int32} {i : Nat} (hz : ¬ z < 0) (hi : i < z.toNatClampNeg) (h : ∀ j : Int32, ¬ j < 0 → j.toNatClampNeg < i → g j = q j) (e : x = q (Int32.ofNat i)) : ∀ j : Int32, ¬ j < 0 → j.toNatClampNeg < i + 1 → own_up g (Int32.ofNat i) x j = q j := by
  intro j h1 h2
  unfold own_up
  by_cases c : Int32.ofNat i = j
  · rw [if_pos c, e, c]
  · rw [if_neg c]
    refine h j h1 (Nat.lt_of_le_of_ne (by omega) fun y => c ?_)
    apply Int32.toInt_inj.mp
    rw [own_i32 hz hi, nat_of h1, y]
def own_ch (b : Int32) : Int32 := b &&& (255 : Int32)
theorem own_shr0 (z : Int32) : (z >>> ((0 : Int32) &&& 31)) = z := by
  apply Int32.toInt_inj.mp
  rw [c_ishr z 0 0 rfl]; simp
theorem own_chb (x : Int32) : 0 ≤ (x &&& (255 : Int32)).toInt ∧ (x &&& (255 : Int32)).toInt ≤ 255 := by
  have m := c_mask x (255 : Int32) 8 (by decide) (by decide)
  rw [m]; omega
theorem own_i2c {x : Int32} (h0 : 0 ≤ x.toInt) (h1 : x.toInt ≤ 65535) : x.toUInt32.toUInt16.toUInt32.toInt32 = x := by
  apply Int32.toInt_inj.mp
  have := c_i2c x
  omega
theorem own_nch {x : Int32} (h0 : 0 ≤ x.toInt) (h1 : x.toInt ≤ 65535) : nar .char x = x := own_i2c h0 h1
theorem own_chr (x : Int32) : nar .char ((x &&& (255 : Int32)).toUInt32.toUInt16.toUInt32.toInt32) = own_ch x := by
  have b := own_chb x
  rw [own_i2c b.1 (by omega), own_nch b.1 (by omega)]; rfl
theorem own_cfa (z : Int32) : (((z - z).toUInt32 >>> ((31 : Int32) &&& 31).toUInt32).toInt32).toInt8.toInt32 = (0 : Int32) := by
  have e : z - z = (0 : Int32) := Int32.sub_self z
  rw [e]; decide
theorem own_i8 (x : Int32) : nar .byte (x.toInt8.toInt32) = x.toInt8.toInt32 := by
  show x.toInt8.toInt32.toInt8.toInt32 = x.toInt8.toInt32
  simp
theorem own_ltn {x : Int32} (h1 : x.toInt ≤ 255) : ¬ (255 : Int32) < x := by
  rw [Int32.lt_iff_toInt_lt, show (255 : Int32).toInt = 255 from rfl]; omega
theorem e16_0 : jD0 0 (.getstatic 38, 3) ∧ jD0 3 (.ifCond .eq 10, 3) ∧ jD0 6 (.aload_n 0, 1) ∧ jD0 7 (.getfield 15, 3) := by decide +kernel
theorem e16_10 : jD0 10 (.goto 4, 3) ∧ jD0 14 (.ireturn, 1) := by decide +kernel
theorem own_pn_java_lang_String : plainName "java/lang/String" = true := by first | (simp [plainName, overriddenIn]; done) | decide +kernel
theorem own_ef_rm_coder (mM : MethodId) (x0 : Addr) : entryFrame mM #[(.ref x0)] 1 = mkF mM 0 #[.val (.ref x0)] [] := by first | (simp [entryFrame, mkF, argsToLocals, Value.category]; done) | rfl
def Q_rm_coder (Z : State) (a : Addr) (cs : Int32) (h0 : Heap) (n0 : Nat) (vV : Option Value) (hH : Heap) (lA : List Loc) : Prop := vV = some (.int (0 : Int32)) ∧ Fr n0 lA ∧ (hH = h0)
set_option maxRecDepth 65536 in
set_option maxHeartbeats 40000000 in
theorem rm_coder (lL : Launch) (Z : State) (a0 : Array Value) (hw : own_H a0 Z) (ws : List Jvm.Cond) (a : Addr) (cs : Int32) (h0 : Heap) (n0 : Nat) (Z0 : n0 ≤ h0.size) (Oo : Old Z n0 h0) (Scs : Sta Z Z.heap "java/lang/String" "COMPACT_STRINGS" "Z" (.int cs)) (ncs : ¬ (cs = (0 : Int32))) (Fc : jF0 Z h0 a (.int (0 : Int32))) :
    own_Met lL jy0 (Jvm.Cond.code jy0 jdk_42_method_152_code 1 (some .byte) :: ws) jr0 #[(.ref a)] Z h0 (Q_rm_coder Z a cs h0 n0) := by
  refine own_begin (plainFor_of_name own_pn_java_lang_String) (fun mM => own_ef_rm_coder mM a) fun pP eE sS mM below meth cC s₁ hx hby hml hZ hown hnm hre hlk X0 e0 => ?_
  have hC := @Jvm.hb _ _ hby
  have N0 := Fr.nil n0
  have K0 := Keep.refl h0 ([] : List Addr)
  obtain ⟨T1_, X1_, e1_, st1_⟩ := getS2 X0 hx hZ hown (host := "") (Or.inl (jk hw 37 rfl)) Via.refl e0 (own_StaKeep Oo Scs) (g := (mkF mM 0 #[vR a] [])) rfl (hC e16_0.1)
  refine own_fin st1_ ?_
  refine jg T1_ mM 7 #[vR a] [(.ref a)] (fun tT kK => ?_) ?_
  · refine XS.ifNo X1_.here hx rfl (hC e16_0.2.1) rfl ((if0 _ _).trans (feq (ncs : ¬ (cs = (0 : Int32)))).1) ?_
    refine XS.aloadN X1_.here hx rfl (hC e16_0.2.2.1) rfl rfl ?_
    exact kK
  refine jf X1_ hx hZ hown (jk hw 49 rfl) e1_ Fc (hC e16_0.2.2.2) fun T2_ X2_ e2_ => ?_
  refine jg T2_ mM 14 #[vR a] [(.int (0 : Int32))] (fun tT kK => ?_) ?_
  · refine XS.goto X2_.here hx rfl (pc0 := 10) (pc' := 14) rfl (hC e16_10.1) (by decide) (by decide) ?_
    exact kK
  exact own_rL X2_ hx hlk hre (by simp) (hC e16_10.2) (w := (.int (0 : Int32))) rfl e2_ (by decide) (by decide) ⟨rfl, N0, rfl⟩
theorem e15_0 : jD1 0 (.aload_n 0, 1) ∧ jD1 1 (.getfield 9, 3) ∧ jD1 4 (.arraylength, 1) ∧ jD1 5 (.aload_n 0, 1) := by decide +kernel
theorem d15_6 : jD1 6 (.invokevirtual 335, 3) := by decide +kernel
theorem own_pd0 : parseMethodDescriptor "()B" = some ⟨[], some .byte⟩ := by decide +kernel
theorem e15_9 : jD1 9 (.ishr, 1) ∧ jD1 10 (.ireturn, 1) := by decide +kernel
theorem own_ef_rm_slen (mM : MethodId) (x0 : Addr) : entryFrame mM #[(.ref x0)] 1 = mkF mM 0 #[.val (.ref x0)] [] := by first | (simp [entryFrame, mkF, argsToLocals, Value.category]; done) | rfl
def Q_rm_slen (Z : State) (a : Addr) (t : Addr) (z : Int32) (f : Int32 → Int32) (cs : Int32) (h0 : Heap) (n0 : Nat) (vV : Option Value) (hH : Heap) (lA : List Loc) : Prop := vV = some (.int z) ∧ Fr n0 lA ∧ (hH = h0)
set_option maxRecDepth 65536 in
set_option maxHeartbeats 40000000 in
theorem rm_slen (lL : Launch) (Z : State) (a0 : Array Value) (hw : own_H a0 Z) (ws : List Jvm.Cond) (a : Addr) (t : Addr) (z : Int32) (f : Int32 → Int32) (cs : Int32) (h0 : Heap) (n0 : Nat) (Z0 : n0 ≤ h0.size) (Oo : Old Z n0 h0) (Scs : Sta Z Z.heap "java/lang/String" "COMPACT_STRINGS" "Z" (.int cs)) (ncs : ¬ (cs = (0 : Int32))) (Ea : jE0 Z h0 a) (Fv : jF1 Z h0 a (.ref t)) (Fc : jF0 Z h0 a (.int (0 : Int32))) (Tt : own_T Z h0 t .byte z f) :
    own_Met lL jy1 (Jvm.Cond.code jy1 jdk_42_method_54_code 1 (some .int) :: ws) jr1 #[(.ref a)] Z h0 (Q_rm_slen Z a t z f cs h0 n0) := by
  refine own_begin (plainFor_of_name own_pn_java_lang_String) (fun mM => own_ef_rm_slen mM a) fun pP eE sS mM below meth cC s₁ hx hby hml hZ hown hnm hre hlk X0 e0 => ?_
  have hC := @Jvm.hb _ _ hby
  have N0 := Fr.nil n0
  have K0 := Keep.refl h0 ([] : List Addr)
  refine jg s₁ mM 1 #[vR a] [(.ref a)] (fun tT kK => ?_) ?_
  · refine XS.aloadN X0.here hx rfl (hC e15_0.1) rfl rfl ?_
    exact kK
  refine jf X0 hx hZ hown (jk hw 51 rfl) e0 Fv (hC e15_0.2.1) fun T1_ X1_ e1_ => ?_
  obtain ⟨cl2_, Ar2_, Sz2_, Nn2_, -⟩ := id Tt
  refine jg T1_ mM 6 #[vR a] [(.ref a), (.int z)] (fun tT kK => ?_) ?_
  · refine X1_.arraylength hx (own_rw e1_ Ar2_.1) (State.isArrayOf_alike hZ.alike Ar2_.2.1) (g := (mkF mM 4 #[vR a] [(.ref t)])) rfl rfl (hC e15_0.2.2.1) _ ?_
    rw [len_of Sz2_ Nn2_]
    refine XS.aloadN X1_.here hx rfl (hC e15_0.2.2.2) rfl rfl ?_
    exact kK
  refine jv X1_ hx hZ (y := jy0) hown (jk hw 82 rfl) (jk hw 83 rfl) (jk hw 85 rfl) (jk hw 84 rfl) (jk hw 86 rfl) (jk hw 26 rfl) (rm_coder lL Z a0 hw [] a cs h0 n0 (Nat.le_trans Z0 K0.1) Oo Scs ncs Fc) Ea e1_ own_pd0 [] [(.int z)] (hC d15_6) rfl rfl (by rw [hml]; rfl) (by decide) 1 (Nat.le_of_eq rfl) (by decide) (by decide) (by decide : 0 + 0 ≤ _) (by decide : 0 + 0 ≤ _) fun vv3_ T3_ L3_ X3_ hQ3_ => ?_
  obtain ⟨rfl, N3_q, p3__0⟩ := hQ3_
  have N3_ := Fr.app N0 N3_q
  refine jg T3_ mM 10 #[vR a] [(.int (z >>> ((0 : Int32) &&& 31)))] (fun tT kK => ?_) ?_
  · refine XS.ishr X3_.here hx rfl (hC e15_9.1) rfl ?_
    exact kK
  exact own_rr X3_ hx hlk hre rfl (Or.inl ⟨rfl, Or.inl rfl, _, rfl⟩) (hC e15_9.2) p3__0 (by decide) (by decide) ⟨by rw [own_shr0], N3_, rfl⟩
theorem e27_0 : jD2 0 (.iload_n 0, 1) ∧ jD2 1 (.ifCond .lt 8, 3) ∧ jD2 4 (.iload_n 0, 1) ∧ jD2 5 (.iload_n 1, 1) := by decide +kernel
theorem e27_6 : jD2 6 (.if_icmp .lt 10, 3) ∧ jD2 16 (.iload_n 0, 1) ∧ jD2 17 (.ireturn, 1) := by decide +kernel
theorem own_pn_jdk_internal_util_Preconditions : plainName "jdk/internal/util/Preconditions" = true := by first | (simp [plainName, overriddenIn]; done) | decide +kernel
theorem own_ef_rm_pre (mM : MethodId) (x0 : Int32) (x1 : Int32) (x2 : Value) (hr2 : x2.isRef = true) : entryFrame mM #[(.int x0), (.int x1), x2] 3 = mkF mM 0 #[.val (.int x0), .val (.int x1), .val x2] [] := by
  cases x2 <;> first | rfl | (simp [Value.isRef] at *; done)
def Q_rm_pre (Z : State) (i1 : Int32) (n1 : Int32) (fv : Value) (h0 : Heap) (n0 : Nat) (vV : Option Value) (hH : Heap) (lA : List Loc) : Prop := vV = some (.int i1) ∧ Fr n0 lA ∧ (hH = h0)
set_option maxRecDepth 65536 in
set_option maxHeartbeats 40000000 in
theorem rm_pre (lL : Launch) (Z : State) (a0 : Array Value) (hw : own_H a0 Z) (ws : List Jvm.Cond) (i1 : Int32) (n1 : Int32) (fv : Value) (h0 : Heap) (n0 : Nat) (Z0 : n0 ≤ h0.size) (rfv : fv.isRef = true) (h1 : ¬ (i1 < (0 : Int32))) (h2 : i1 < n1) :
    own_Met lL jy2 (Jvm.Cond.code jy2 jdk_41_method_11_code 3 (some .int) :: ws) jr0 #[(.int i1), (.int n1), fv] Z h0 (Q_rm_pre Z i1 n1 fv h0 n0) := by
  refine own_begin (plainFor_of_name own_pn_jdk_internal_util_Preconditions) (fun mM => own_ef_rm_pre mM i1 n1 fv rfv) fun pP eE sS mM below meth cC s₁ hx hby hml hZ hown hnm hre hlk X0 e0 => ?_
  have hC := @Jvm.hb _ _ hby
  have N0 := Fr.nil n0
  have K0 := Keep.refl h0 ([] : List Addr)
  refine jg s₁ mM 17 #[vI i1, vI n1, .val fv] [(.int i1)] (fun tT kK => ?_) ?_
  · refine XS.iloadN X0.here hx rfl (hC e27_0.1) rfl ?_
    refine XS.ifNo X0.here hx rfl (hC e27_0.2.1) rfl ((if0 _ _).trans (flt (h1 : ¬ (i1 < (0 : Int32)))).1) ?_
    refine XS.iloadN X0.here hx rfl (hC e27_0.2.2.1) rfl ?_
    refine XS.iloadN X0.here hx rfl (hC e27_0.2.2.2) rfl ?_
    refine XS.icmpYes X0.here hx rfl (pc0 := 6) (pc' := 16) rfl (hC e27_6.1) rfl (tlt (h2 : i1 < n1)).1 (by decide) (by decide) ?_
    refine XS.iloadN X0.here hx rfl (hC e27_6.2.1) rfl ?_
    exact kK
  exact own_rr X0 hx hlk hre rfl (Or.inl ⟨rfl, Or.inl rfl, _, rfl⟩) (hC e27_6.2.2) e0 (by decide) (by decide) ⟨rfl, N0, rfl⟩
theorem e26_0 : jD3 0 (.iload_n 0, 1) ∧ jD3 1 (.iload_n 1, 1) ∧ jD3 2 (.getstatic 1053, 3) ∧ jD3 5 (.invokestatic 1059, 3) := by decide +kernel
theorem own_pd1 : parseMethodDescriptor "(IILjava/util/function/BiFunction;)I" = some ⟨[.int, .int, (.object "java/util/function/BiFunction")], some .int⟩ := by decide +kernel
theorem e26_8 : jD3 8 (.pop, 1) ∧ jD3 9 (.return_, 1) := by decide +kernel
theorem own_ef_rm_chk (mM : MethodId) (x0 : Int32) (x1 : Int32) : entryFrame mM #[(.int x0), (.int x1)] 2 = mkF mM 0 #[.val (.int x0), .val (.int x1)] [] := by first | (simp [entryFrame, mkF, argsToLocals, Value.category]; done) | rfl
def Q_rm_chk (Z : State) (i1 : Int32) (n1 : Int32) (fv : Value) (h0 : Heap) (n0 : Nat) (vV : Option Value) (hH : Heap) (lA : List Loc) : Prop := vV = none ∧ Fr n0 lA ∧ (hH = h0)
set_option maxRecDepth 65536 in
set_option maxHeartbeats 40000000 in
theorem rm_chk (lL : Launch) (Z : State) (a0 : Array Value) (hw : own_H a0 Z) (ws : List Jvm.Cond) (i1 : Int32) (n1 : Int32) (fv : Value) (h0 : Heap) (n0 : Nat) (Z0 : n0 ≤ h0.size) (Oo : Old Z n0 h0) (Sfv : Sta Z Z.heap "jdk/internal/util/Preconditions" "SIOOBE_FORMATTER" "Ljava/util/function/BiFunction;" fv) (rfv : fv.isRef = true) (h1 : ¬ (i1 < (0 : Int32))) (h2 : i1 < n1) :
    own_Met lL jy3 (Jvm.Cond.code jy3 jdk_42_method_155_code 2 none :: ws) jr2 #[(.int i1), (.int n1)] Z h0 (Q_rm_chk Z i1 n1 fv h0 n0) := by
  refine own_begin (plainFor_of_name own_pn_java_lang_String) (fun mM => own_ef_rm_chk mM i1 n1) fun pP eE sS mM below meth cC s₁ hx hby hml hZ hown hnm hre hlk X0 e0 => ?_
  have hC := @Jvm.hb _ _ hby
  have N0 := Fr.nil n0
  have K0 := Keep.refl h0 ([] : List Addr)
  refine jg s₁ mM 2 #[vI i1, vI n1] [(.int n1), (.int i1)] (fun tT kK => ?_) ?_
  · refine XS.iloadN X0.here hx rfl (hC e26_0.1) rfl ?_
    refine XS.iloadN X0.here hx rfl (hC e26_0.2.1) rfl ?_
    exact kK
  obtain ⟨T1_, X1_, e1_, st1_⟩ := getS2 X0 hx hZ hown (host := "") (Or.inl (jk hw 122 rfl)) Via.refl e0 (own_StaKeep Oo Sfv) (g := (mkF mM 2 #[vI i1, vI n1] [(.int n1), (.int i1)])) rfl (hC e26_0.2.2.1)
  refine own_fin st1_ ?_
  refine jc X1_ hx hZ (y := jy2) hown (jk hw 124 rfl) (jk hw 125 rfl) (jk hw 123 rfl) (jk hw 126 rfl) (rm_pre lL Z a0 hw [] i1 n1 fv h0 n0 (Nat.le_trans Z0 K0.1) rfv h1 h2) e1_ own_pd1 [(.int i1), (.int n1), fv] [] (hC e26_0.2.2.2) rfl rfl (by rw [hml]; rfl) (by decide) 0 (Nat.le_of_eq rfl) (by decide) (by decide) (by decide : 0 + 0 ≤ _) (by decide : 0 + 0 ≤ _) fun vv2_ T2_ L2_ X2_ hQ2_ => ?_
  obtain ⟨rfl, N2_q, p2__0⟩ := hQ2_
  have N2_ := Fr.app N0 N2_q
  refine jg T2_ mM 9 #[vI i1, vI n1] [] (fun tT kK => ?_) ?_
  · refine XS.pop X2_.here hx rfl (hC e26_8.1) rfl rfl ?_
    exact kK
  exact own_rV X2_ hx hlk hre (hC e26_8.2) p2__0 (by decide) (by decide) ⟨rfl, N2_, rfl⟩
theorem e14_0 : jD4 0 (.getstatic 38, 3) ∧ jD4 3 (.ifCond .eq 14, 3) ∧ jD4 6 (.aload_n 0, 1) ∧ jD4 7 (.getfield 15, 3) := by decide +kernel
theorem e14_10 : jD4 10 (.ifCond .ne 7, 3) ∧ jD4 13 (.iconst 1, 1) ∧ jD4 14 (.goto 4, 3) ∧ jD4 18 (.ireturn, 1) := by decide +kernel
theorem own_ef_rm_isl (mM : MethodId) (x0 : Addr) : entryFrame mM #[(.ref x0)] 1 = mkF mM 0 #[.val (.ref x0)] [] := by first | (simp [entryFrame, mkF, argsToLocals, Value.category]; done) | rfl
def Q_rm_isl (Z : State) (a : Addr) (cs : Int32) (h0 : Heap) (n0 : Nat) (vV : Option Value) (hH : Heap) (lA : List Loc) : Prop := vV = some (.int (1 : Int32)) ∧ Fr n0 lA ∧ (hH = h0)
set_option maxRecDepth 65536 in
set_option maxHeartbeats 40000000 in
theorem rm_isl (lL : Launch) (Z : State) (a0 : Array Value) (hw : own_H a0 Z) (ws : List Jvm.Cond) (a : Addr) (cs : Int32) (h0 : Heap) (n0 : Nat) (Z0 : n0 ≤ h0.size) (Oo : Old Z n0 h0) (Scs : Sta Z Z.heap "java/lang/String" "COMPACT_STRINGS" "Z" (.int cs)) (ncs : ¬ (cs = (0 : Int32))) (Fc : jF0 Z h0 a (.int (0 : Int32))) :
    own_Met lL jy4 (Jvm.Cond.code jy4 jdk_42_method_154_code 1 (some .boolean) :: ws) jr0 #[(.ref a)] Z h0 (Q_rm_isl Z a cs h0 n0) := by
  refine own_begin (plainFor_of_name own_pn_java_lang_String) (fun mM => own_ef_rm_isl mM a) fun pP eE sS mM below meth cC s₁ hx hby hml hZ hown hnm hre hlk X0 e0 => ?_
  have hC := @Jvm.hb _ _ hby
  have N0 := Fr.nil n0
  have K0 := Keep.refl h0 ([] : List Addr)
  obtain ⟨T1_, X1_, e1_, st1_⟩ := getS2 X0 hx hZ hown (host := "") (Or.inl (jk hw 37 rfl)) Via.refl e0 (own_StaKeep Oo Scs) (g := (mkF mM 0 #[vR a] [])) rfl (hC e14_0.1)
  refine own_fin st1_ ?_
  refine jg T1_ mM 7 #[vR a] [(.ref a)] (fun tT kK => ?_) ?_
  · refine XS.ifNo X1_.here hx rfl (hC e14_0.2.1) rfl ((if0 _ _).trans (feq (ncs : ¬ (cs = (0 : Int32)))).1) ?_
    refine XS.aloadN X1_.here hx rfl (hC e14_0.2.2.1) rfl rfl ?_
    exact kK
  refine jf X1_ hx hZ hown (jk hw 49 rfl) e1_ Fc (hC e14_0.2.2.2) fun T2_ X2_ e2_ => ?_
  refine jg T2_ mM 18 #[vR a] [(.int (1 : Int32))] (fun tT kK => ?_) ?_
  · refine XS.ifNo X2_.here hx rfl (hC e14_10.1) rfl ((if0 _ _).trans (teq ((by decide) : (0 : Int32) = (0 : Int32))).2) ?_
    refine XS.iconst X2_.here hx rfl (hC e14_10.2.1) ?_
    refine XS.goto X2_.here hx rfl (pc0 := 14) (pc' := 18) rfl (hC e14_10.2.2.1) (by decide) (by decide) ?_
    exact kK
  exact own_rL X2_ hx hlk hre (by simp) (hC e14_10.2.2.2) (w := (.int (1 : Int32))) rfl e2_ (by decide) (by decide) ⟨rfl, N0, rfl⟩
theorem e25_0 : jD5 0 (.iload_n 1, 1) ∧ jD5 1 (.aload_n 0, 1) ∧ jD5 2 (.arraylength, 1) ∧ jD5 3 (.invokestatic 9, 3) := by decide +kernel
theorem own_pd2 : parseMethodDescriptor "(II)V" = some ⟨[.int, .int], none⟩ := by decide +kernel
theorem e25_6 : jD5 6 (.aload_n 0, 1) ∧ jD5 7 (.iload_n 1, 1) ∧ jD5 8 (.baload, 1) ∧ jD5 9 (.sipush 255, 3) := by decide +kernel
theorem e25_12 : jD5 12 (.iand, 1) ∧ jD5 13 (.i2c, 1) ∧ jD5 14 (.ireturn, 1) := by decide +kernel
theorem own_pn_java_lang_StringLatin1 : plainName "java/lang/StringLatin1" = true := by first | (simp [plainName, overriddenIn]; done) | decide +kernel
theorem own_ef_rm_l1ch (mM : MethodId) (x0 : Addr) (x1 : Int32) : entryFrame mM #[(.ref x0), (.int x1)] 2 = mkF mM 0 #[.val (.ref x0), .val (.int x1)] [] := by first | (simp [entryFrame, mkF, argsToLocals, Value.category]; done) | rfl
def Q_rm_l1ch (Z : State) (t : Addr) (i1 : Int32) (z : Int32) (f : Int32 → Int32) (fv : Value) (h0 : Heap) (n0 : Nat) (vV : Option Value) (hH : Heap) (lA : List Loc) : Prop := vV = some (.int (own_ch (f i1))) ∧ Fr n0 lA ∧ (hH = h0)
set_option maxRecDepth 65536 in
set_option maxHeartbeats 40000000 in
theorem rm_l1ch (lL : Launch) (Z : State) (a0 : Array Value) (hw : own_H a0 Z) (ws : List Jvm.Cond) (t : Addr) (i1 : Int32) (z : Int32) (f : Int32 → Int32) (fv : Value) (h0 : Heap) (n0 : Nat) (Z0 : n0 ≤ h0.size) (Oo : Old Z n0 h0) (Sfv : Sta Z Z.heap "jdk/internal/util/Preconditions" "SIOOBE_FORMATTER" "Ljava/util/function/BiFunction;" fv) (rfv : fv.isRef = true) (Tt : own_T Z h0 t .byte z f) (h1 : ¬ (i1 < (0 : Int32))) (h2 : i1 < z) :
    own_Met lL jy5 (Jvm.Cond.code jy5 jdk_43_method_2_code 2 (some .char) :: ws) jr3 #[(.ref t), (.int i1)] Z h0 (Q_rm_l1ch Z t i1 z f fv h0 n0) := by
  refine own_begin (plainFor_of_name own_pn_java_lang_StringLatin1) (fun mM => own_ef_rm_l1ch mM t i1) fun pP eE sS mM below meth cC s₁ hx hby hml hZ hown hnm hre hlk X0 e0 => ?_
  have hC := @Jvm.hb _ _ hby
  have N0 := Fr.nil n0
  have K0 := Keep.refl h0 ([] : List Addr)
  refine jg s₁ mM 2 #[vR t, vI i1] [(.ref t), (.int i1)] (fun tT kK => ?_) ?_
  · refine XS.iloadN X0.here hx rfl (hC e25_0.1) rfl ?_
    refine XS.aloadN X0.here hx rfl (hC e25_0.2.1) rfl rfl ?_
    exact kK
  obtain ⟨cl1_, Ar1_, Sz1_, Nn1_, -⟩ := id Tt
  refine jg s₁ mM 3 #[vR t, vI i1] [(.int z), (.int i1)] (fun tT kK => ?_) ?_
  · refine X0.arraylength hx (own_rw e0 Ar1_.1) (State.isArrayOf_alike hZ.alike Ar1_.2.1) (g := (mkF mM 2 #[vR t, vI i1] [(.ref t), (.int i1)])) rfl rfl (hC e25_0.2.2.1) _ ?_
    rw [len_of Sz1_ Nn1_]
    exact kK
  refine jc X0 hx hZ (y := jy3) hown (jk hw 119 rfl) (jk hw 120 rfl) (jk hw 26 rfl) (jk hw 121 rfl) (rm_chk lL Z a0 hw [] i1 z fv h0 n0 (Nat.le_trans Z0 K0.1) Oo Sfv rfv h1 h2) e0 own_pd2 [(.int i1), (.int z)] [] (hC e25_0.2.2.2) rfl rfl (by rw [hml]; rfl) (by decide) 0 (Nat.le_of_eq rfl) (by decide) (by decide) (by decide : 0 + 0 ≤ _) (by decide : 0 + 0 ≤ _) fun vv2_ T2_ L2_ X2_ hQ2_ => ?_
  obtain ⟨rfl, N2_q, p2__0⟩ := hQ2_
  have N2_ := Fr.app N0 N2_q
  refine jg T2_ mM 8 #[vR t, vI i1] [(.int i1), (.ref t)] (fun tT kK => ?_) ?_
  · refine XS.aloadN X2_.here hx rfl (hC e25_6.1) rfl rfl ?_
    refine XS.iloadN X2_.here hx rfl (hC e25_6.2.1) rfl ?_
    exact kK
  obtain ⟨cl3_, Ar3_, Sz3_, Nn3_, Hh3_⟩ := id Tt
  have hin3_ : ¬ (i1 < 0 ∨ cl3_.slots.size ≤ (i1).toNatClampNeg) := inb_of Sz3_ ⟨h1, h2⟩
  have hat3_ : cl3_.slots[(i1).toNatClampNeg]? = some (.int (f i1)) := Hh3_ _ hin3_
  refine jg T2_ mM 14 #[vR t, vI i1] [(.int (((f i1) &&& (255 : Int32)).toUInt32.toUInt16.toUInt32.toInt32))] (fun tT kK => ?_) ?_
  · refine X2_.baloadBytes hx (j := i1) (v := (.int (f i1))) (own_rw p2__0 Ar3_.1) (State.isArrayOf_alike hZ.alike Ar3_.2.1) Ar3_.2.2 hin3_ hat3_ (g := (mkF mM 8 #[vR t, vI i1] [(.int i1), (.ref t)])) rfl rfl (hC e25_6.2.2.1) _ ?_
    refine XS.sipush X2_.here hx rfl (hC e25_6.2.2.2) ?_
    refine XS.iand X2_.here hx rfl (hC e25_12.1) rfl ?_
    refine XS.i2c X2_.here hx rfl (hC e25_12.2.1) rfl ?_
    exact kK
  exact own_rN X2_ hx hlk hre (by simp) (hC e25_12.2.2) p2__0 (by decide) (by decide) ⟨by rw [own_chr], N2_, rfl⟩
theorem e24_0 : jD6 0 (.aload_n 0, 1) ∧ jD6 1 (.invokevirtual 492, 3) := by decide +kernel
theorem own_pd3 : parseMethodDescriptor "()Z" = some ⟨[], some .boolean⟩ := by decide +kernel
theorem e24_4 : jD6 4 (.ifCond .eq 12, 3) ∧ jD6 7 (.aload_n 0, 1) ∧ jD6 8 (.getfield 9, 3) ∧ jD6 11 (.iload_n 1, 1) := by decide +kernel
theorem d24_12 : jD6 12 (.invokestatic 495, 3) := by decide +kernel
theorem own_pd4 : parseMethodDescriptor "([BI)C" = some ⟨[(.array .byte), .int], some .char⟩ := by decide +kernel
theorem d24_15 : jD6 15 (.ireturn, 1) := by decide +kernel
theorem own_ef_rm_char (mM : MethodId) (x0 : Addr) (x1 : Int32) : entryFrame mM #[(.ref x0), (.int x1)] 2 = mkF mM 0 #[.val (.ref x0), .val (.int x1)] [] := by first | (simp [entryFrame, mkF, argsToLocals, Value.category]; done) | rfl
def Q_rm_char (Z : State) (a : Addr) (i1 : Int32) (t : Addr) (z : Int32) (f : Int32 → Int32) (cs : Int32) (fv : Value) (h0 : Heap) (n0 : Nat) (vV : Option Value) (hH : Heap) (lA : List Loc) : Prop := vV = some (.int (own_ch (f i1))) ∧ Fr n0 lA ∧ (hH = h0)
set_option maxRecDepth 65536 in
set_option maxHeartbeats 40000000 in
theorem rm_char (lL : Launch) (Z : State) (a0 : Array Value) (hw : own_H a0 Z) (ws : List Jvm.Cond) (a : Addr) (i1 : Int32) (t : Addr) (z : Int32) (f : Int32 → Int32) (cs : Int32) (fv : Value) (h0 : Heap) (n0 : Nat) (Z0 : n0 ≤ h0.size) (Oo : Old Z n0 h0) (Scs : Sta Z Z.heap "java/lang/String" "COMPACT_STRINGS" "Z" (.int cs)) (ncs : ¬ (cs = (0 : Int32))) (Sfv : Sta Z Z.heap "jdk/internal/util/Preconditions" "SIOOBE_FORMATTER" "Ljava/util/function/BiFunction;" fv) (rfv : fv.isRef = true) (Ea : jE0 Z h0 a) (Fv : jF1 Z h0 a (.ref t)) (Fc : jF0 Z h0 a (.int (0 : Int32))) (Tt : own_T Z h0 t .byte z f) (h1 : ¬ (i1 < (0 : Int32))) (h2 : i1 < z) :
    own_Met lL jy6 (Jvm.Cond.code jy6 jdk_42_method_56_code 2 (some .char) :: ws) jr4 #[(.ref a), (.int i1)] Z h0 (Q_rm_char Z a i1 t z f cs fv h0 n0) := by
  refine own_begin (plainFor_of_name own_pn_java_lang_String) (fun mM => own_ef_rm_char mM a i1) fun pP eE sS mM below meth cC s₁ hx hby hml hZ hown hnm hre hlk X0 e0 => ?_
  have hC := @Jvm.hb _ _ hby
  have N0 := Fr.nil n0
  have K0 := Keep.refl h0 ([] : List Addr)
  refine jg s₁ mM 1 #[vR a, vI i1] [(.ref a)] (fun tT kK => ?_) ?_
  · refine XS.aloadN X0.here hx rfl (hC e24_0.1) rfl rfl ?_
    exact kK
  refine jv X0 hx hZ (y := jy4) hown (jk hw 72 rfl) (jk hw 73 rfl) (jk hw 75 rfl) (jk hw 74 rfl) (jk hw 76 rfl) (jk hw 26 rfl) (rm_isl lL Z a0 hw [] a cs h0 n0 (Nat.le_trans Z0 K0.1) Oo Scs ncs Fc) Ea e0 own_pd3 [] [] (hC e24_0.2) rfl rfl (by rw [hml]; rfl) (by decide) 0 (Nat.le_of_eq rfl) (by decide) (by decide) (by decide : 0 + 0 ≤ _) (by decide : 0 + 0 ≤ _) fun vv1_ T1_ L1_ X1_ hQ1_ => ?_
  obtain ⟨rfl, N1_q, p1__0⟩ := hQ1_
  have N1_ := Fr.app N0 N1_q
  refine jg T1_ mM 8 #[vR a, vI i1] [(.ref a)] (fun tT kK => ?_) ?_
  · refine XS.ifNo X1_.here hx rfl (hC e24_4.1) rfl ((if0 _ _).trans (feq ((by decide) : ¬ ((1 : Int32) = (0 : Int32)))).1) ?_
    refine XS.aloadN X1_.here hx rfl (hC e24_4.2.1) rfl rfl ?_
    exact kK
  refine jf X1_ hx hZ hown (jk hw 51 rfl) p1__0 Fv (hC e24_4.2.2.1) fun T2_ X2_ e2_ => ?_
  refine jg T2_ mM 12 #[vR a, vI i1] [(.int i1), (.ref t)] (fun tT kK => ?_) ?_
  · refine XS.iloadN X2_.here hx rfl (hC e24_4.2.2.2) rfl ?_
    exact kK
  refine jc X2_ hx hZ (y := jy5) hown (jk hw 116 rfl) (jk hw 117 rfl) (jk hw 89 rfl) (jk hw 118 rfl) (rm_l1ch lL Z a0 hw [] t i1 z f fv h0 n0 (Nat.le_trans Z0 K0.1) Oo Sfv rfv Tt h1 h2) e2_ own_pd4 [(.ref t), (.int i1)] [] (hC d24_12) rfl rfl (by rw [hml]; rfl) (by decide) 0 (Nat.le_of_eq rfl) (by decide) (by decide) (by decide : 0 + 0 ≤ _) (by decide : 0 + 0 ≤ _) fun vv3_ T3_ L3_ X3_ hQ3_ => ?_
  obtain ⟨rfl, N3_q, p3__0⟩ := hQ3_
  have N3_ := Fr.app N1_ N3_q
  exact own_rN X3_ hx hlk hre (by simp) (hC d24_15) p3__0 (by decide) (by decide) ⟨by rw [own_nch (x := own_ch (f i1)) (own_chb (f i1)).1 (by have := (own_chb (f i1)).2; show (f i1 &&& (255 : Int32)).toInt ≤ 65535; omega)], N3_, rfl⟩
theorem e8_3 : jD7 3 (.iload 5, 2) ∧ jD7 5 (.iload 4, 2) ∧ jD7 7 (.if_icmp .ge 37, 3) ∧ jD7 10 (.aload_n 0, 1) := by decide +kernel
theorem e8_11 : jD7 11 (.iload_n 1, 1) ∧ jD7 12 (.caload, 1) ∧ jD7 13 (.istore 6, 2) := by decide +kernel
theorem own_os0 {z0 : Value} {z1 : Value} {z2 : Value} {z3 : Value} {z4 : Value} {z5 : Value} {s6 : Slot} {v : Int32} (h : One s6) : storeLocals #[.val z0, .val z1, .val z2, .val z3, .val z4, .val z5, s6] 6 (.int v) = some #[.val z0, .val z1, .val z2, .val z3, .val z4, .val z5, .val (.int v)] := by
  rcases h with rfl | ⟨w, rfl, hw⟩
  · first | rfl | (simp [Value.category, Value.isRef] at *; done)
  · cases w <;> first | rfl | (simp [Value.category, Value.isRef] at *; done)
theorem e8_15 : jD7 15 (.iload 6, 2) ∧ jD7 17 (.sipush 255, 3) ∧ jD7 20 (.if_icmp .le 6, 3) ∧ jD7 26 (.aload_n 2, 1) := by decide +kernel
theorem e8_27 : jD7 27 (.iload_n 3, 1) ∧ jD7 28 (.iload 6, 2) ∧ jD7 30 (.i2b, 1) ∧ jD7 31 (.bastore, 1) := by decide +kernel
theorem e8_32 : jD7 32 (.iinc 1 1, 3) ∧ jD7 35 (.iinc 3 1, 3) ∧ jD7 38 (.iinc 5 1, 3) ∧ jD7 41 (.goto (-38), 3) := by decide +kernel
set_option maxRecDepth 65536 in
set_option maxHeartbeats 40000000 in
theorem own_lpc {pP : Program} {lL : Launch} {eE : Env} {R : Room} {sS : State} {mM : MethodId} {args : Array Value} {below : List Frame} {meth : Method} {cC : Code} {cells slots : Nat} {PP : State → Outcome → Prop} (Z : State) (a0 : Array Value) (hw : own_H a0 Z) (a : Addr) (b : Addr) (z : Int32) (f : Int32 → Int32) (g0 : Int32 → Int32) (h0 : Heap) (n0 : Nat) (Z0 : n0 ≤ h0.size) (gb : n0 ≤ b) (nab : a ≠ b) (hp : ∀ j : Int32, ¬ j < 0 ∧ j < z → 0 ≤ (f j).toInt ∧ (f j).toInt ≤ 255) (hx : pP.tables.exec = Jvm.exec) (hZ : Z.Warmed39 sS.vm) (hby : cC.code = jdk_52_method_21_code) (hml : cC.maxLocals = 7) (hown : sS.vm.findClass "java/lang/StringUTF16" = some mM.cls)
    (kont0 : ∀ (s6 : Slot) (Th : State) (hh : Heap) (Lh : List Loc), Stand pP lL eE R sS mM args below meth cC Th Lh cells slots → Th.heap = hh → Fr n0 Lh → Keep h0 hh [b] → (own_T Z hh b .byte z (fun j => (f j).toInt8.toInt32)) → own_Fin pP eE below PP (Th.setTop (mkF mM 44 #[.val (.ref a), .val (.int (Int32.ofNat z.toNatClampNeg)), .val (.ref b), .val (.int (Int32.ofNat z.toNatClampNeg)), .val (.int z), .val (.int (Int32.ofNat z.toNatClampNeg)), s6] []))) :
    ∀ (k i : Nat) (g : Int32 → Int32) (s6 : Slot) (Th : State) (hh : Heap) (Lh : List Loc), i + k = z.toNatClampNeg → Stand pP lL eE R sS mM args below meth cC Th Lh cells slots → Th.heap = hh → Fr n0 Lh → Keep h0 hh [b] → (own_T Z hh a .char z f) → (own_T Z hh b .byte z g) → (∀ j : Int32, ¬ j < 0 → j.toNatClampNeg < i → g j = (fun j => (f j).toInt8.toInt32) j) → (One s6) → own_Fin pP eE below PP (Th.setTop (mkF mM 3 #[.val (.ref a), .val (.int (Int32.ofNat i)), .val (.ref b), .val (.int (Int32.ofNat i)), .val (.int z), .val (.int (Int32.ofNat i)), s6] [])) := by
  have hC := @Jvm.hb _ _ hby
  intro k
  induction k with
  | zero =>
      intro i g s6 Th hh Lh hik Xh eh Nh Kh Ti Tg Pg hs6
      have hz := Tg.nn
      obtain rfl : i = z.toNatClampNeg := by omega
      let ll1 : Array Slot := #[vR a, vI (Int32.ofNat z.toNatClampNeg), vR b, vI (Int32.ofNat z.toNatClampNeg), vI z, vI (Int32.ofNat z.toNatClampNeg), s6]
      refine jg Th mM 44 ll1 [] (fun tT kK => ?_) ?_
      · refine XS.iload Xh.here hx rfl (hC e8_3.1) rfl ?_
        refine XS.iload Xh.here hx rfl (hC e8_3.2.1) rfl ?_
        refine XS.icmpYes Xh.here hx rfl (pc0 := 7) (pc' := 44) rfl (hC e8_3.2.2.1) rfl (flt (own_nlt hz : ¬ ((Int32.ofNat z.toNatClampNeg) < z))).2.1 (by decide) (by decide) ?_
        exact kK
      exact kont0 _ _ _ _ Xh eh Nh Kh (Tg.congr fun j hj => Pg j hj.1 (own_jn hj.1 hz hj.2))
  | succ k ih =>
      intro i g s6 Th hh Lh hik Xh eh Nh Kh Ti Tg Pg hs6
      have hz := Tg.nn
      have hi : i < z.toNatClampNeg := by omega
      have hc := hp _ (own_inz hz hi)
      let ll2 : Array Slot := #[vR a, vI (Int32.ofNat i), vR b, vI (Int32.ofNat i), vI z, vI (Int32.ofNat i), s6]
      refine jg Th mM 12 ll2 [(.int (Int32.ofNat i)), (.ref a)] (fun tT kK => ?_) ?_
      · refine XS.iload Xh.here hx rfl (hC e8_3.1) rfl ?_
        refine XS.iload Xh.here hx rfl (hC e8_3.2.1) rfl ?_
        refine XS.icmpNo Xh.here hx rfl (hC e8_3.2.2.1) rfl (tlt (own_ltz hz hi : (Int32.ofNat i) < z)).2.1 ?_
        refine XS.aloadN Xh.here hx rfl (hC e8_3.2.2.2) rfl rfl ?_
        refine XS.iloadN Xh.here hx rfl (hC e8_11.1) rfl ?_
        exact kK
      obtain ⟨cl1_, Ar1_, Sz1_, Nn1_, Hh1_⟩ := id Ti
      have hin1_ : ¬ ((Int32.ofNat i) < 0 ∨ cl1_.slots.size ≤ ((Int32.ofNat i)).toNatClampNeg) := inb_of Sz1_ (own_inz hz hi)
      have hat1_ : cl1_.slots[((Int32.ofNat i)).toNatClampNeg]? = some (.int (f (Int32.ofNat i))) := Hh1_ _ hin1_
      let ll3 : Array Slot := #[vR a, vI (Int32.ofNat i), vR b, vI (Int32.ofNat i), vI z, vI (Int32.ofNat i), vI (f (Int32.ofNat i))]
      refine jg Th mM 31 ll3 [(.int ((f (Int32.ofNat i)).toInt8.toInt32)), (.int (Int32.ofNat i)), (.ref b)] (fun tT kK => ?_) ?_
      · refine Xh.caload hx (j := (Int32.ofNat i)) (v := (.int (f (Int32.ofNat i)))) (own_rw eh Ar1_.1) (State.isArrayOf_alike hZ.alike Ar1_.2.1) Ar1_.2.2 hin1_ hat1_ (g := (mkF mM 12 ll2 [(.int (Int32.ofNat i)), (.ref a)])) rfl rfl (hC e8_11.2.1) _ ?_
        refine XS.istore Xh.here hx rfl (hC e8_11.2.2) rfl (l' := ll3) (own_os0 hs6) ?_
        refine XS.iload Xh.here hx rfl (hC e8_15.1) rfl ?_
        refine XS.sipush Xh.here hx rfl (hC e8_15.2.1) ?_
        refine XS.icmpYes Xh.here hx rfl (pc0 := 20) (pc' := 26) rfl (hC e8_15.2.2.1) rfl (flt (own_ltn hc.2 : ¬ ((255 : Int32) < (f (Int32.ofNat i))))).2.2.2 (by decide) (by decide) ?_
        refine XS.aloadN Xh.here hx rfl (hC e8_15.2.2.2) rfl rfl ?_
        refine XS.iloadN Xh.here hx rfl (hC e8_27.1) rfl ?_
        refine XS.iload Xh.here hx rfl (hC e8_27.2.1) rfl ?_
        refine XS.i2b Xh.here hx rfl (hC e8_27.2.2.1) rfl ?_
        exact kK
      obtain ⟨cl2_, Ar2_, Sz2_, Nn2_, Hh2_⟩ := id Tg
      have hin2_ : ¬ ((Int32.ofNat i) < 0 ∨ cl2_.slots.size ≤ ((Int32.ofNat i)).toNatClampNeg) := inb_of Sz2_ (own_inz hz hi)
      obtain ⟨T2_, h2_, X2_, e2_, W2_, st2_⟩ := stB Xh hx hZ eh Ar2_ (j := (Int32.ofNat i)) hin2_ (g := (mkF mM 31 ll3 [(.int ((f (Int32.ofNat i)).toInt8.toInt32)), (.int (Int32.ofNat i)), (.ref b)])) rfl rfl (hC e8_27.2.2.2)
      have U2_ : own_T Z h2_ b .byte z (own_up g (Int32.ofNat i) (nar .byte ((f (Int32.ofNat i)).toInt8.toInt32))) := own_T.set ⟨cl2_, Ar2_, Sz2_, Nn2_, Hh2_⟩ W2_ (own_inz hz hi)
      have fc3_ := Ti.other W2_ nab
      have K2_ := Kh.wr W2_ (Or.inl (List.mem_of_getElem? (i := 0) rfl))
      have N2_ := Fr.snoc X2_ Nh gb
      refine own_fin st2_ ?_
      let ll4 : Array Slot := #[vR a, vI ((Int32.ofNat i) + (1 : Int32)), vR b, vI ((Int32.ofNat i) + (1 : Int32)), vI z, vI ((Int32.ofNat i) + (1 : Int32)), vI (f (Int32.ofNat i))]
      refine jg T2_ mM 3 ll4 [] (fun tT kK => ?_) ?_
      · let ll5 : Array Slot := #[vR a, vI ((Int32.ofNat i) + (1 : Int32)), vR b, vI (Int32.ofNat i), vI z, vI (Int32.ofNat i), vI (f (Int32.ofNat i))]
        refine XS.iinc X2_.here hx rfl (hC e8_32.1) rfl (l' := ll5) rfl ?_
        let ll6 : Array Slot := #[vR a, vI ((Int32.ofNat i) + (1 : Int32)), vR b, vI ((Int32.ofNat i) + (1 : Int32)), vI z, vI (Int32.ofNat i), vI (f (Int32.ofNat i))]
        refine XS.iinc X2_.here hx rfl (hC e8_32.2.1) rfl (l' := ll6) rfl ?_
        refine XS.iinc X2_.here hx rfl (hC e8_32.2.2.1) rfl (l' := ll4) rfl ?_
        refine XS.goto X2_.here hx rfl (pc0 := 41) (pc' := 3) rfl (hC e8_32.2.2.2) (by decide) (by decide) ?_
        exact kK
      show own_Fin pP eE below _ (T2_.setTop (mkF mM 3 #[.val (.ref a), .val (.int ((Int32.ofNat i) + (1 : Int32))), .val (.ref b), .val (.int ((Int32.ofNat i) + (1 : Int32))), .val (.int z), .val (.int ((Int32.ofNat i) + (1 : Int32))), .val (.int (f (Int32.ofNat i)))] []))
      rw [own_one i]
      exact ih (i + 1) _ _ _ _ _ (by omega) X2_ e2_ N2_ K2_ fc3_ U2_ (own_upf hz hi Pg (own_i8 _)) (One.val rfl)
theorem e8_0 : jD7 0 (.iconst 0, 1) ∧ jD7 1 (.istore 5, 2) ∧ jD7 44 (.iload 4, 2) ∧ jD7 46 (.ireturn, 1) := by decide +kernel
theorem own_pn_java_lang_StringUTF16 : plainName "java/lang/StringUTF16" = true := by first | (simp [plainName, overriddenIn]; done) | decide +kernel
theorem own_ef_rm_cmp1 (mM : MethodId) (x0 : Addr) (x1 : Int32) (x2 : Addr) (x3 : Int32) (x4 : Int32) : entryFrame mM #[(.ref x0), (.int x1), (.ref x2), (.int x3), (.int x4)] 7 = mkF mM 0 #[.val (.ref x0), .val (.int x1), .val (.ref x2), .val (.int x3), .val (.int x4), .unset, .unset] [] := by first | (simp [entryFrame, mkF, argsToLocals, Value.category]; done) | rfl
def Q_rm_cmp1 (Z : State) (a : Addr) (b : Addr) (z : Int32) (f : Int32 → Int32) (g0 : Int32 → Int32) (h0 : Heap) (n0 : Nat) (vV : Option Value) (hH : Heap) (lA : List Loc) : Prop := vV = some (.int z) ∧ Fr n0 lA ∧ (Keep h0 hH [b]) ∧ (own_T Z hH b .byte z (fun j => (f j).toInt8.toInt32))
set_option maxRecDepth 65536 in
set_option maxHeartbeats 40000000 in
theorem rm_cmp1 (lL : Launch) (Z : State) (a0 : Array Value) (hw : own_H a0 Z) (ws : List Jvm.Cond) (a : Addr) (b : Addr) (z : Int32) (f : Int32 → Int32) (g0 : Int32 → Int32) (h0 : Heap) (n0 : Nat) (Z0 : n0 ≤ h0.size) (Ta : own_T Z h0 a .char z f) (Tb : own_T Z h0 b .byte z g0) (gb : n0 ≤ b) (nab : a ≠ b) (hp : ∀ j : Int32, ¬ j < 0 ∧ j < z → 0 ≤ (f j).toInt ∧ (f j).toInt ≤ 255) :
    own_Met lL jy7 (Jvm.Cond.code jy7 jdk_52_method_21_code 7 (some .int) :: ws) jr0 #[(.ref a), (.int (0 : Int32)), (.ref b), (.int (0 : Int32)), (.int z)] Z h0 (Q_rm_cmp1 Z a b z f g0 h0 n0) := by
  refine own_begin (plainFor_of_name own_pn_java_lang_StringUTF16) (fun mM => own_ef_rm_cmp1 mM a (0 : Int32) b (0 : Int32) z) fun pP eE sS mM below meth cC s₁ hx hby hml hZ hown hnm hre hlk X0 e0 => ?_
  have hC := @Jvm.hb _ _ hby
  have N0 := Fr.nil n0
  have K0 := Keep.refl h0 [b]
  let ll1 : Array Slot := #[vR a, vI 0, vR b, vI 0, vI z, vI 0, vU]
  refine jg s₁ mM 3 ll1 [] (fun tT kK => ?_) ?_
  · refine XS.iconst X0.here hx rfl (hC e8_0.1) ?_
    refine XS.istore X0.here hx rfl (hC e8_0.2.1) rfl (l' := ll1) rfl ?_
    exact kK
  refine own_lpc Z a0 hw a b z f g0 h0 n0 Z0 gb nab hp hx hZ hby hml hown ?_ z.toNatClampNeg 0 g0 _ _ _ _ (by omega) X0 e0 N0 K0 Ta Tb (fun j h1 h2 => absurd h2 (Nat.not_lt_zero _)) One.u
  intro s6_1_ T1_ h1_ L1_ X1_ e1_ N1_ K1_ p1__0
  let ll2 : Array Slot := #[vR a, vI (Int32.ofNat z.toNatClampNeg), vR b, vI (Int32.ofNat z.toNatClampNeg), vI z, vI (Int32.ofNat z.toNatClampNeg), s6_1_]
  refine jg T1_ mM 46 ll2 [(.int z)] (fun tT kK => ?_) ?_
  · refine XS.iload X1_.here hx rfl (hC e8_0.2.2.1) rfl ?_
    exact kK
  exact own_rr X1_ hx hlk hre rfl (Or.inl ⟨rfl, Or.inl rfl, _, rfl⟩) (hC e8_0.2.2.2) e1_ (by decide) (by decide) ⟨rfl, N1_, K1_, p1__0⟩
theorem e7_0 : jD8 0 (.iload_n 2, 1) ∧ jD8 1 (.newarray .byte, 2) ∧ jD8 3 (.astore_n 3, 1) ∧ jD8 4 (.aload_n 0, 1) := by decide +kernel
theorem e7_5 : jD8 5 (.iload_n 1, 1) ∧ jD8 6 (.aload_n 3, 1) ∧ jD8 7 (.iconst 0, 1) ∧ jD8 8 (.iload_n 2, 1) := by decide +kernel
theorem d7_9 : jD8 9 (.invokestatic 115, 3) := by decide +kernel
theorem own_pd5 : parseMethodDescriptor "([CI[BII)I" = some ⟨[(.array .char), .int, (.array .byte), .int, .int], some .int⟩ := by decide +kernel
theorem e7_12 : jD8 12 (.istore 4, 2) ∧ jD8 14 (.iload 4, 2) ∧ jD8 16 (.iload_n 2, 1) ∧ jD8 17 (.if_icmp .eq 40, 3) := by decide +kernel
theorem e7_57 : jD8 57 (.aload_n 3, 1) ∧ jD8 58 (.areturn, 1) := by decide +kernel
theorem own_ef_rm_cmp2 (mM : MethodId) (x0 : Addr) (x1 : Int32) (x2 : Int32) : entryFrame mM #[(.ref x0), (.int x1), (.int x2)] 6 = mkF mM 0 #[.val (.ref x0), .val (.int x1), .val (.int x2), .unset, .unset, .unset] [] := by first | (simp [entryFrame, mkF, argsToLocals, Value.category]; done) | rfl
def Q_rm_cmp2 (Z : State) (a : Addr) (z : Int32) (f : Int32 → Int32) (h0 : Heap) (n0 : Nat) (vV : Option Value) (hH : Heap) (lA : List Loc) : Prop := ∃ b : Addr, vV = some (.ref b) ∧ Fr n0 lA ∧ (Keep h0 hH []) ∧ (h0.size ≤ b) ∧ (own_T Z hH b .byte z (fun j => (f j).toInt8.toInt32))
set_option maxRecDepth 65536 in
set_option maxHeartbeats 40000000 in
theorem rm_cmp2 (lL : Launch) (Z : State) (a0 : Array Value) (hw : own_H a0 Z) (ws : List Jvm.Cond) (a : Addr) (z : Int32) (f : Int32 → Int32) (h0 : Heap) (n0 : Nat) (Z0 : n0 ≤ h0.size) (Ta : own_T Z h0 a .char z f) (hp : ∀ j : Int32, ¬ j < 0 ∧ j < z → 0 ≤ (f j).toInt ∧ (f j).toInt ≤ 255) (hcap : z.toNatClampNeg ≤ 19) :
    own_Met lL jy8 (Jvm.Cond.code jy8 jdk_52_method_16_code 6 (some (.array .byte)) :: ws) jr5 #[(.ref a), (.int (0 : Int32)), (.int z)] Z h0 (Q_rm_cmp2 Z a z f h0 n0) := by
  refine own_begin (plainFor_of_name own_pn_java_lang_StringUTF16) (fun mM => own_ef_rm_cmp2 mM a (0 : Int32) z) fun pP eE sS mM below meth cC s₁ hx hby hml hZ hown hnm hre hlk X0 e0 => ?_
  have hC := @Jvm.hb _ _ hby
  have N0 := Fr.nil n0
  have K0 := Keep.refl h0 ([] : List Addr)
  have hz := Ta.nn
  let ll1 : Array Slot := #[vR a, vI 0, vI z, vU, vU, vU]
  refine jg s₁ mM 1 ll1 [(.int z)] (fun tT kK => ?_) ?_
  · refine XS.iloadN X0.here hx rfl (hC e7_0.1) rfl ?_
    exact kK
  obtain ⟨T1_, h1_, k1_, X1_, e1_, E1_, A1_, st1_⟩ := newP X0 hx hZ (jk hw 42 rfl) e0 (g := (mkF mM 1 ll1 [(.int z)])) rfl (hC e7_0.2.1) rfl hz (cap := 19) hcap (by decide) (by decide) (by decide)
  obtain ⟨b1_, g1_⟩ : ∃ z, z = h0.size := ⟨_, rfl⟩
  rw [← g1_] at A1_ st1_
  have sz_b1_ : h0.size ≤ b1_ := Nat.le_trans K0.1 (Nat.le_of_eq g1_.symm)
  have ge_b1_ : n0 ≤ b1_ := Nat.le_trans Z0 sz_b1_
  have ne2_ : a ≠ b1_ := Nat.ne_of_lt (Nat.lt_of_lt_of_le Ta.lt (Nat.le_of_eq g1_.symm))
  have fc3_ := Ta.ext E1_
  have K1_ := K0.ext E1_
  refine own_fin st1_ ?_
  have Tb : own_T Z h1_ b1_ .byte z (fun _ => 0) := own_T.new A1_ hz rfl
  let ll2 : Array Slot := #[vR a, vI 0, vI z, vR b1_, vU, vU]
  refine jg T1_ mM 9 ll2 [(.int z), (.int (0 : Int32)), (.ref b1_), (.int (0 : Int32)), (.ref a)] (fun tT kK => ?_) ?_
  · refine XS.astoreN X1_.here hx rfl (hC e7_0.2.2.1) rfl rfl (l' := ll2) rfl ?_
    refine XS.aloadN X1_.here hx rfl (hC e7_0.2.2.2) rfl rfl ?_
    refine XS.iloadN X1_.here hx rfl (hC e7_5.1) rfl ?_
    refine XS.aloadN X1_.here hx rfl (hC e7_5.2.1) rfl rfl ?_
    refine XS.iconst X1_.here hx rfl (hC e7_5.2.2.1) ?_
    refine XS.iloadN X1_.here hx rfl (hC e7_5.2.2.2) rfl ?_
    exact kK
  refine jc X1_ hx hZ (y := jy7) hown (jk hw 43 rfl) (jk hw 44 rfl) (jk hw 40 rfl) (jk hw 45 rfl) (rm_cmp1 lL Z a0 hw [] a b1_ z f (fun _ => 0) h1_ n0 (Nat.le_trans Z0 K1_.1) fc3_ Tb ge_b1_ ne2_ hp) e1_ own_pd5 [(.ref a), (.int (0 : Int32)), (.ref b1_), (.int (0 : Int32)), (.int z)] [] (hC d7_9) rfl rfl (by rw [hml]; rfl) (by decide) 0 (Nat.le_of_eq rfl) (by decide) (by decide) (by decide : 1 + 0 ≤ _) (by decide : 19 + 0 ≤ _) fun vv4_ T4_ L4_ X4_ hQ4_ => ?_
  obtain ⟨rfl, N4_q, p4__0, p4__1⟩ := hQ4_
  have N4_ := Fr.app N0 N4_q
  have K4_ := K1_.trans p4__0 (allS (Or.inr sz_b1_) all0)
  let ll3 : Array Slot := #[vR a, vI 0, vI z, vR b1_, vI z, vU]
  refine jg T4_ mM 58 ll3 [(.ref b1_)] (fun tT kK => ?_) ?_
  · refine XS.istore X4_.here hx rfl (hC e7_12.1) rfl (l' := ll3) rfl ?_
    refine XS.iload X4_.here hx rfl (hC e7_12.2.1) rfl ?_
    refine XS.iloadN X4_.here hx rfl (hC e7_12.2.2.1) rfl ?_
    refine XS.icmpYes X4_.here hx rfl (pc0 := 17) (pc' := 57) rfl (hC e7_12.2.2.2) rfl (teq (rfl : z = z)).1 (by decide) (by decide) ?_
    refine XS.aloadN X4_.here hx rfl (hC e7_57.1) rfl rfl ?_
    exact kK
  exact own_rr X4_ hx hlk hre rfl (Or.inr (Or.inr (Or.inr (Or.inr ⟨rfl, rfl, rfl⟩)))) (hC e7_57.2) rfl (by decide) (by decide) ⟨b1_, rfl, N4_, K4_, sz_b1_, p4__1⟩
theorem e9_0 : jD9 0 (.iload_n 1, 1) ∧ jD9 1 (.aload_n 0, 1) ∧ jD9 2 (.arraylength, 1) ∧ jD9 3 (.isub, 1) := by decide +kernel
theorem e9_4 : jD9 4 (.bipush 31, 2) ∧ jD9 6 (.iushr, 1) ∧ jD9 7 (.i2b, 1) ∧ jD9 8 (.ireturn, 1) := by decide +kernel
theorem own_ef_rm_cfa (mM : MethodId) (x0 : Addr) (x1 : Int32) : entryFrame mM #[(.ref x0), (.int x1)] 2 = mkF mM 0 #[.val (.ref x0), .val (.int x1)] [] := by first | (simp [entryFrame, mkF, argsToLocals, Value.category]; done) | rfl
def Q_rm_cfa (Z : State) (a : Addr) (z : Int32) (f : Int32 → Int32) (h0 : Heap) (n0 : Nat) (vV : Option Value) (hH : Heap) (lA : List Loc) : Prop := vV = some (.int (0 : Int32)) ∧ Fr n0 lA ∧ (hH = h0)
set_option maxRecDepth 65536 in
set_option maxHeartbeats 40000000 in
theorem rm_cfa (lL : Launch) (Z : State) (a0 : Array Value) (hw : own_H a0 Z) (ws : List Jvm.Cond) (a : Addr) (z : Int32) (f : Int32 → Int32) (h0 : Heap) (n0 : Nat) (Z0 : n0 ≤ h0.size) (Ta : own_T Z h0 a .byte z f) :
    own_Met lL jy9 (Jvm.Cond.code jy9 jdk_52_method_15_code 2 (some .byte) :: ws) jr0 #[(.ref a), (.int z)] Z h0 (Q_rm_cfa Z a z f h0 n0) := by
  refine own_begin (plainFor_of_name own_pn_java_lang_StringUTF16) (fun mM => own_ef_rm_cfa mM a z) fun pP eE sS mM below meth cC s₁ hx hby hml hZ hown hnm hre hlk X0 e0 => ?_
  have hC := @Jvm.hb _ _ hby
  have N0 := Fr.nil n0
  have K0 := Keep.refl h0 ([] : List Addr)
  refine jg s₁ mM 2 #[vR a, vI z] [(.ref a), (.int z)] (fun tT kK => ?_) ?_
  · refine XS.iloadN X0.here hx rfl (hC e9_0.1) rfl ?_
    refine XS.aloadN X0.here hx rfl (hC e9_0.2.1) rfl rfl ?_
    exact kK
  obtain ⟨cl1_, Ar1_, Sz1_, Nn1_, -⟩ := id Ta
  refine jg s₁ mM 8 #[vR a, vI z] [(.int ((((z - z).toUInt32 >>> ((31 : Int32) &&& 31).toUInt32).toInt32).toInt8.toInt32))] (fun tT kK => ?_) ?_
  · refine X0.arraylength hx (own_rw e0 Ar1_.1) (State.isArrayOf_alike hZ.alike Ar1_.2.1) (g := (mkF mM 2 #[vR a, vI z] [(.ref a), (.int z)])) rfl rfl (hC e9_0.2.2.1) _ ?_
    rw [len_of Sz1_ Nn1_]
    refine XS.isub X0.here hx rfl (hC e9_0.2.2.2) rfl ?_
    refine XS.bipush X0.here hx rfl (hC e9_4.1) ?_
    refine XS.iushr X0.here hx rfl (hC e9_4.2.1) rfl ?_
    refine XS.i2b X0.here hx rfl (hC e9_4.2.2.1) rfl ?_
    exact kK
  exact own_rN X0 hx hlk hre (by simp) (hC e9_4.2.2.2) e0 (by decide) (by decide) ⟨by rw [own_cfa]; rfl, N0, rfl⟩
theorem e5_0 : jD10 0 (.aload_n 0, 1) ∧ jD10 1 (.invokespecial 1, 3) ∧ jD10 4 (.iload_n 3, 1) ∧ jD10 5 (.ifCond .ne 22, 3) := by decide +kernel
theorem e5_27 : jD10 27 (.getstatic 38, 3) ∧ jD10 30 (.ifCond .eq 28, 3) ∧ jD10 33 (.aload_n 1, 1) ∧ jD10 34 (.iload_n 2, 1) := by decide +kernel
theorem e5_35 : jD10 35 (.iload_n 3, 1) ∧ jD10 36 (.invokestatic 177, 3) := by decide +kernel
theorem own_pd6 : parseMethodDescriptor "([CII)[B" = some ⟨[(.array .char), .int, .int], some (.array .byte)⟩ := by decide +kernel
theorem e5_39 : jD10 39 (.astore 5, 2) ∧ jD10 41 (.aload_n 0, 1) ∧ jD10 42 (.aload 5, 2) ∧ jD10 44 (.iload_n 3, 1) := by decide +kernel
theorem d5_45 : jD10 45 (.invokestatic 47, 3) := by decide +kernel
theorem own_pd7 : parseMethodDescriptor "([BI)B" = some ⟨[(.array .byte), .int], some .byte⟩ := by decide +kernel
theorem d5_48 : jD10 48 (.putfield 15, 3) := by decide +kernel
theorem js0 {Z : State} {a0 : Array Value} (hw : own_H a0 Z) : jQ0 Z ≠ jQ1 Z := slot_ne (Or.inr (jk hw 52 rfl)) (Or.inr (jk hw 50 rfl)) (by decide) (t := (.array .byte)) (t' := .byte) (by decide) (by decide)
theorem e5_51 : jD10 51 (.aload_n 0, 1) ∧ jD10 52 (.aload 5, 2) ∧ jD10 54 (.putfield 9, 3) ∧ jD10 57 (.return_, 1) := by decide +kernel
theorem own_ef_rm_str4 (mM : MethodId) (x0 : Addr) (x1 : Addr) (x2 : Int32) (x3 : Int32) : entryFrame mM #[(.ref x0), (.ref x1), (.int x2), (.int x3), .null] 6 = mkF mM 0 #[.val (.ref x0), .val (.ref x1), .val (.int x2), .val (.int x3), .val .null, .unset] [] := by first | (simp [entryFrame, mkF, argsToLocals, Value.category]; done) | rfl
def Q_rm_str4 (Z : State) (a : Addr) (c : Addr) (z : Int32) (f : Int32 → Int32) (cs : Int32) (h0 : Heap) (n0 : Nat) (vV : Option Value) (hH : Heap) (lA : List Loc) : Prop := ∃ b : Addr, vV = none ∧ Fr n0 lA ∧ (Keep h0 hH [a]) ∧ (h0.size ≤ b) ∧ (jE0 Z hH a) ∧ (jF1 Z hH a (.ref b)) ∧ (jF0 Z hH a (.int (0 : Int32))) ∧ (own_T Z hH b .byte z (fun j => (f j).toInt8.toInt32))
set_option maxRecDepth 65536 in
set_option maxHeartbeats 40000000 in
theorem rm_str4 (lL : Launch) (Z : State) (a0 : Array Value) (hw : own_H a0 Z) (ws : List Jvm.Cond) (a : Addr) (c : Addr) (z : Int32) (f : Int32 → Int32) (cs : Int32) (h0 : Heap) (n0 : Nat) (Z0 : n0 ≤ h0.size) (Oo : Old Z n0 h0) (Scs : Sta Z Z.heap "java/lang/String" "COMPACT_STRINGS" "Z" (.int cs)) (ncs : ¬ (cs = (0 : Int32))) (Ea : jE0 Z h0 a) (Fv : jF1 Z h0 a .null) (Fc : jF0 Z h0 a (.int (0 : Int32))) (ga : n0 ≤ a) (Tc : own_T Z h0 c .char z f) (hp : ∀ j : Int32, ¬ j < 0 ∧ j < z → 0 ≤ (f j).toInt ∧ (f j).toInt ≤ 255) (hcap : z.toNatClampNeg ≤ 19) (hnz : ¬ (z = (0 : Int32))) (nca : c ≠ a) :
    own_Met lL jy10 (Jvm.Cond.code jy10 jdk_42_method_149_code 6 none :: ws) jr6 #[(.ref a), (.ref c), (.int (0 : Int32)), (.int z), .null] Z h0 (Q_rm_str4 Z a c z f cs h0 n0) := by
  refine own_begin (plainFor_of_name own_pn_java_lang_String) (fun mM => own_ef_rm_str4 mM a c (0 : Int32) z) fun pP eE sS mM below meth cC s₁ hx hby hml hZ hown hnm hre hlk X0 e0 => ?_
  have hC := @Jvm.hb _ _ hby
  have N0 := Fr.nil n0
  have K0 := Keep.refl h0 [a]
  let ll1 : Array Slot := #[vR a, vR c, vI 0, vI z, vN, vU]
  refine jg s₁ mM 1 ll1 [(.ref a)] (fun tT kK => ?_) ?_
  · refine XS.aloadN X0.here hx rfl (hC e5_0.1) rfl rfl ?_
    exact kK
  obtain ⟨T1_, X1_, e1_, st1_⟩ := initO X0 hx hZ hown (jk hw 34 rfl) (jk hw 35 rfl) (jk hw 36 rfl) e0 (g := (mkF mM 1 ll1 [(.ref a)])) rfl (by rw [hml]; rfl) rfl (hC e5_0.2.1) (by decide) (W := 0) (by show 2 * 0 + _ ≤ _; exact Nat.le_of_eq rfl) (by decide)
  refine own_fin st1_ ?_
  refine jg T1_ mM 27 ll1 [] (fun tT kK => ?_) ?_
  · refine XS.iloadN X1_.here hx rfl (hC e5_0.2.2.1) rfl ?_
    refine XS.ifYes X1_.here hx rfl (pc0 := 5) (pc' := 27) rfl (hC e5_0.2.2.2) rfl ((if0 _ _).trans (feq (hnz : ¬ (z = (0 : Int32)))).2) (by decide) (by decide) ?_
    exact kK
  obtain ⟨T2_, X2_, e2_, st2_⟩ := getS2 X1_ hx hZ hown (host := "") (Or.inl (jk hw 37 rfl)) Via.refl e1_ (own_StaKeep Oo Scs) (g := (mkF mM 27 ll1 [])) rfl (hC e5_27.1)
  refine own_fin st2_ ?_
  refine jg T2_ mM 36 ll1 [(.int z), (.int (0 : Int32)), (.ref c)] (fun tT kK => ?_) ?_
  · refine XS.ifNo X2_.here hx rfl (hC e5_27.2.1) rfl ((if0 _ _).trans (feq (ncs : ¬ (cs = (0 : Int32)))).1) ?_
    refine XS.aloadN X2_.here hx rfl (hC e5_27.2.2.1) rfl rfl ?_
    refine XS.iloadN X2_.here hx rfl (hC e5_27.2.2.2) rfl ?_
    refine XS.iloadN X2_.here hx rfl (hC e5_35.1) rfl ?_
    exact kK
  refine jc X2_ hx hZ (y := jy8) hown (jk hw 38 rfl) (jk hw 39 rfl) (jk hw 40 rfl) (jk hw 41 rfl) (rm_cmp2 lL Z a0 hw [] c z f h0 n0 (Nat.le_trans Z0 K0.1) Tc hp hcap) e2_ own_pd6 [(.ref c), (.int (0 : Int32)), (.int z)] [] (hC e5_35.2) rfl rfl (by rw [hml]; rfl) (by decide) 0 (Nat.le_of_eq rfl) (by decide) (by decide) (by decide : 0 + 1 ≤ _) (by decide : 0 + 19 ≤ _) fun vv3_ T3_ L3_ X3_ hQ3_ => ?_
  obtain ⟨b_3_, rfl, N3_q, p3__0, p3__1, p3__2⟩ := hQ3_
  have N3_ := Fr.app N0 N3_q
  have sz_b_3_ : h0.size ≤ b_3_ := Nat.le_trans K0.1 p3__1
  have ne4_ : a ≠ b_3_ := Nat.ne_of_lt (Nat.lt_of_lt_of_le Ea.lt p3__1)
  have fc7_ := Ea.keep p3__0
  have fc8_ := Fv.keep p3__0 nin0
  have fc9_ := Fc.keep p3__0 nin0
  have K3_ := K0.trans p3__0 all0
  let ll2 : Array Slot := #[vR a, vR c, vI 0, vI z, vN, vR b_3_]
  refine jg T3_ mM 45 ll2 [(.int z), (.ref b_3_), (.ref a)] (fun tT kK => ?_) ?_
  · refine XS.astore X3_.here hx rfl (hC e5_39.1) rfl rfl (l' := ll2) rfl ?_
    refine XS.aloadN X3_.here hx rfl (hC e5_39.2.1) rfl rfl ?_
    refine XS.aload X3_.here hx rfl (hC e5_39.2.2.1) rfl rfl ?_
    refine XS.iloadN X3_.here hx rfl (hC e5_39.2.2.2) rfl ?_
    exact kK
  refine jc X3_ hx hZ (y := jy9) hown (jk hw 46 rfl) (jk hw 47 rfl) (jk hw 40 rfl) (jk hw 48 rfl) (rm_cfa lL Z a0 hw [] b_3_ z (fun j => (f j).toInt8.toInt32) T3_.heap n0 (Nat.le_trans Z0 K3_.1) p3__2) rfl own_pd7 [(.ref b_3_), (.int z)] [(.ref a)] (hC d5_45) rfl rfl (by rw [hml]; rfl) (by decide) 1 (Nat.le_of_eq rfl) (by decide) (by decide) (by decide : 1 + 0 ≤ _) (by decide : 19 + 0 ≤ _) fun vv11_ T11_ L11_ X11_ hQ11_ => ?_
  obtain ⟨rfl, N11_q, p11__0⟩ := hQ11_
  have N11_ := Fr.app N3_ N11_q
  obtain ⟨T12_, h12_, X12_, e12_, W12_, st12_⟩ := putFN X11_ hx hZ hown (jk hw 49 rfl) Via.refl p11__0 fc9_ fc7_ (Or.inr ⟨(jk hw 50 rfl), rfl, hnm⟩) (jk hw 25 rfl) (ty := .byte) (v' := (.int (0 : Int32))) (by decide) rfl (by first | exact fits_nar_byte _ | rfl) (g := (mkF mM 48 ll2 [(.int (0 : Int32)), (.ref a)])) rfl rfl (hC d5_48)
  have Fw12_ := fc9_.same W12_
  have fc14_ := fc7_.wr W12_
  have fc15_ := fc8_.other W12_ (Or.inr (js0 hw))
  have fc17_ := p3__2.other W12_ (Ne.symm ne4_)
  have K12_ := K3_.wr W12_ (Or.inl (List.mem_of_getElem? (i := 0) rfl))
  have N12_ := Fr.snoc X12_ N11_ ga
  refine own_fin st12_ ?_
  refine jg T12_ mM 54 ll2 [(.ref b_3_), (.ref a)] (fun tT kK => ?_) ?_
  · refine XS.aloadN X12_.here hx rfl (hC e5_51.1) rfl rfl ?_
    refine XS.aload X12_.here hx rfl (hC e5_51.2.1) rfl rfl ?_
    exact kK
  obtain ⟨T18_, h18_, X18_, e18_, W18_, st18_⟩ := putF X12_ hx hZ hown (host := "") (Or.inl (jk hw 51 rfl)) Via.refl e12_ fc15_ fc14_ (Or.inr ⟨(jk hw 52 rfl), rfl, hnm⟩) (jk hw 25 rfl) (ty := (.array .byte)) (by decide) rfl rfl (g := (mkF mM 54 ll2 [(.ref b_3_), (.ref a)])) rfl rfl (hC e5_51.2.2.1)
  have Fw18_ := fc15_.same W18_
  have fc20_ := fc14_.wr W18_
  have fc21_ := Fw12_.other W18_ (Or.inr (js0 hw).symm)
  have fc23_ := fc17_.other W18_ (Ne.symm ne4_)
  have K18_ := K12_.wr W18_ (Or.inl (List.mem_of_getElem? (i := 0) rfl))
  have N18_ := Fr.snoc X18_ N12_ ga
  refine own_fin st18_ ?_
  exact own_rV X18_ hx hlk hre (hC e5_51.2.2.2) e18_ (by decide) (by decide) ⟨b_3_, rfl, N18_, K18_, sz_b_3_, fc20_, Fw18_, fc21_, fc23_⟩
theorem e4_0 : jD11 0 (.aload_n 0, 1) ∧ jD11 1 (.aload_n 1, 1) ∧ jD11 2 (.iconst 0, 1) ∧ jD11 3 (.aload_n 1, 1) := by decide +kernel
theorem e4_4 : jD11 4 (.arraylength, 1) ∧ jD11 5 (.aconst_null, 1) ∧ jD11 6 (.invokespecial 27, 3) := by decide +kernel
theorem own_pd8 : parseMethodDescriptor "([CIILjava/lang/Void;)V" = some ⟨[(.array .char), .int, .int, (.object "java/lang/Void")], none⟩ := by decide +kernel
theorem d4_9 : jD11 9 (.return_, 1) := by decide +kernel
theorem own_ef_rm_str (mM : MethodId) (x0 : Addr) (x1 : Addr) : entryFrame mM #[(.ref x0), (.ref x1)] 2 = mkF mM 0 #[.val (.ref x0), .val (.ref x1)] [] := by first | (simp [entryFrame, mkF, argsToLocals, Value.category]; done) | rfl
def Q_rm_str (Z : State) (a : Addr) (c : Addr) (z : Int32) (f : Int32 → Int32) (cs : Int32) (h0 : Heap) (n0 : Nat) (vV : Option Value) (hH : Heap) (lA : List Loc) : Prop := ∃ b : Addr, vV = none ∧ Fr n0 lA ∧ (Keep h0 hH [a]) ∧ (h0.size ≤ b) ∧ (jE0 Z hH a) ∧ (jF1 Z hH a (.ref b)) ∧ (jF0 Z hH a (.int (0 : Int32))) ∧ (own_T Z hH b .byte z (fun j => (f j).toInt8.toInt32))
set_option maxRecDepth 65536 in
set_option maxHeartbeats 40000000 in
theorem rm_str (lL : Launch) (Z : State) (a0 : Array Value) (hw : own_H a0 Z) (ws : List Jvm.Cond) (a : Addr) (c : Addr) (z : Int32) (f : Int32 → Int32) (cs : Int32) (h0 : Heap) (n0 : Nat) (Z0 : n0 ≤ h0.size) (Oo : Old Z n0 h0) (Scs : Sta Z Z.heap "java/lang/String" "COMPACT_STRINGS" "Z" (.int cs)) (ncs : ¬ (cs = (0 : Int32))) (Ea : jE0 Z h0 a) (Fv : jF1 Z h0 a .null) (Fc : jF0 Z h0 a (.int (0 : Int32))) (ga : n0 ≤ a) (Tc : own_T Z h0 c .char z f) (hp : ∀ j : Int32, ¬ j < 0 ∧ j < z → 0 ≤ (f j).toInt ∧ (f j).toInt ≤ 255) (hcap : z.toNatClampNeg ≤ 19) (hnz : ¬ (z = (0 : Int32))) (nca : c ≠ a) :
    own_Met lL jy11 (Jvm.Cond.code jy11 jdk_42_method_3_code 2 none :: ws) jr7 #[(.ref a), (.ref c)] Z h0 (Q_rm_str Z a c z f cs h0 n0) := by
  refine own_begin (plainFor_of_name own_pn_java_lang_String) (fun mM => own_ef_rm_str mM a c) fun pP eE sS mM below meth cC s₁ hx hby hml hZ hown hnm hre hlk X0 e0 => ?_
  have hC := @Jvm.hb _ _ hby
  have N0 := Fr.nil n0
  have K0 := Keep.refl h0 [a]
  refine jg s₁ mM 4 #[vR a, vR c] [(.ref c), (.int (0 : Int32)), (.ref c), (.ref a)] (fun tT kK => ?_) ?_
  · refine XS.aloadN X0.here hx rfl (hC e4_0.1) rfl rfl ?_
    refine XS.aloadN X0.here hx rfl (hC e4_0.2.1) rfl rfl ?_
    refine XS.iconst X0.here hx rfl (hC e4_0.2.2.1) ?_
    refine XS.aloadN X0.here hx rfl (hC e4_0.2.2.2) rfl rfl ?_
    exact kK
  obtain ⟨cl1_, Ar1_, Sz1_, Nn1_, -⟩ := id Tc
  refine jg s₁ mM 6 #[vR a, vR c] [.null, (.int z), (.int (0 : Int32)), (.ref c), (.ref a)] (fun tT kK => ?_) ?_
  · refine X0.arraylength hx (own_rw e0 Ar1_.1) (State.isArrayOf_alike hZ.alike Ar1_.2.1) (g := (mkF mM 4 #[vR a, vR c] [(.ref c), (.int (0 : Int32)), (.ref c), (.ref a)])) rfl rfl (hC e4_4.1) _ ?_
    rw [len_of Sz1_ Nn1_]
    refine XS.aconstNull X0.here hx rfl (hC e4_4.2.1) ?_
    exact kK
  refine own_sb X0 hx hZ (y := jy10) rfl hown (jk hw 30 rfl) (jk hw 31 rfl) (jk hw 33 rfl) (jk hw 26 rfl) (rm_str4 lL Z a0 hw [] a c z f cs h0 n0 (Nat.le_trans Z0 K0.1) Oo Scs ncs Ea Fv Fc ga Tc hp hcap hnz nca) (a := a) e0 own_pd8 [(.ref c), (.int (0 : Int32)), (.int z), .null] [] (hC e4_4.2.2) rfl rfl (by rw [hml]; rfl) (by decide) 0 (Nat.le_of_eq rfl) (by decide) (by decide) (by decide : 0 + 1 ≤ _) (by decide : 0 + 19 ≤ _) fun vv2_ T2_ L2_ X2_ hQ2_ => ?_
  obtain ⟨b_2_, rfl, N2_q, p2__0, p2__1, p2__2, p2__3, p2__4, p2__5⟩ := hQ2_
  have N2_ := Fr.app N0 N2_q
  have sz_b_2_ : h0.size ≤ b_2_ := Nat.le_trans K0.1 p2__1
  have K2_ := K0.trans p2__0 (allS (Or.inl (List.mem_of_getElem? (i := 0) rfl)) all0)
  exact own_rV X2_ hx hlk hre (hC d4_9) rfl (by decide) (by decide) ⟨b_2_, rfl, N2_, K2_, sz_b_2_, p2__2, p2__3, p2__4, p2__5⟩
def own_fd (f : Int32 → Int32) (b : Int32) : Nat → Nat → Int32
  | 0, _ => -1
  | k + 1, i => if f (Int32.ofNat i) = b then Int32.ofNat i else own_fd f b k (i + 1)
theorem own_fdy {f : Int32 → Int32} {b r : Int32} {k i : Nat} (h : own_fd f b (k + 1) i = r) (e : f (Int32.ofNat i) = b) : r = Int32.ofNat i := by rw [← h]; exact if_pos e
theorem own_fdn {f : Int32 → Int32} {b r : Int32} {k i : Nat} (h : own_fd f b (k + 1) i = r) (e : ¬ f (Int32.ofNat i) = b) : own_fd f b k (i + 1) = r := by rw [← h]; exact (if_neg e).symm
theorem own_zpos {z : Int32} (h : ¬ z < 0) (n : ¬ (z = (0 : Int32))) : (0 : Int32) < z := by
  rw [Int32.lt_iff_toInt_lt] at *
  have : z.toInt ≠ (0 : Int32).toInt := fun q => n (Int32.toInt_inj.mp q)
  omega
theorem e18_0 : jD12 0 (.iload_n 0, 1) ∧ jD12 1 (.ifCond .lt 14, 3) ∧ jD12 4 (.iload_n 0, 1) ∧ jD12 5 (.sipush 255, 3) := by decide +kernel
theorem e18_8 : jD12 8 (.if_icmp .gt 7, 3) ∧ jD12 11 (.iconst 1, 1) ∧ jD12 12 (.goto 4, 3) ∧ jD12 16 (.ireturn, 1) := by decide +kernel
theorem own_ef_rm_can (mM : MethodId) (x0 : Int32) : entryFrame mM #[(.int x0)] 1 = mkF mM 0 #[.val (.int x0)] [] := by first | (simp [entryFrame, mkF, argsToLocals, Value.category]; done) | rfl
def Q_rm_can (Z : State) (p : Int32) (h0 : Heap) (n0 : Nat) (vV : Option Value) (hH : Heap) (lA : List Loc) : Prop := vV = some (.int (1 : Int32)) ∧ Fr n0 lA ∧ (hH = h0)
set_option maxRecDepth 65536 in
set_option maxHeartbeats 40000000 in
theorem rm_can (lL : Launch) (Z : State) (a0 : Array Value) (hw : own_H a0 Z) (ws : List Jvm.Cond) (p : Int32) (h0 : Heap) (n0 : Nat) (Z0 : n0 ≤ h0.size) (h1 : ¬ (p < (0 : Int32))) (h2 : ¬ ((255 : Int32) < p)) :
    own_Met lL jy12 (Jvm.Cond.code jy12 jdk_43_method_4_code 1 (some .boolean) :: ws) jr0 #[(.int p)] Z h0 (Q_rm_can Z p h0 n0) := by
  refine own_begin (plainFor_of_name own_pn_java_lang_StringLatin1) (fun mM => own_ef_rm_can mM p) fun pP eE sS mM below meth cC s₁ hx hby hml hZ hown hnm hre hlk X0 e0 => ?_
  have hC := @Jvm.hb _ _ hby
  have N0 := Fr.nil n0
  have K0 := Keep.refl h0 ([] : List Addr)
  refine jg s₁ mM 16 #[vI p] [(.int (1 : Int32))] (fun tT kK => ?_) ?_
  · refine XS.iloadN X0.here hx rfl (hC e18_0.1) rfl ?_
    refine XS.ifNo X0.here hx rfl (hC e18_0.2.1) rfl ((if0 _ _).trans (flt (h1 : ¬ (p < (0 : Int32)))).1) ?_
    refine XS.iloadN X0.here hx rfl (hC e18_0.2.2.1) rfl ?_
    refine XS.sipush X0.here hx rfl (hC e18_0.2.2.2) ?_
    refine XS.icmpNo X0.here hx rfl (hC e18_8.1) rfl (flt (h2 : ¬ ((255 : Int32) < p))).2.2.1 ?_
    refine XS.iconst X0.here hx rfl (hC e18_8.2.1) ?_
    refine XS.goto X0.here hx rfl (pc0 := 12) (pc' := 16) rfl (hC e18_8.2.2.1) (by decide) (by decide) ?_
    exact kK
  exact own_rL X0 hx hlk hre (by simp) (hC e18_8.2.2.2) (w := (.int (1 : Int32))) rfl e0 (by decide) (by decide) ⟨rfl, N0, rfl⟩
theorem e19_0 : jD13 0 (.iload_n 0, 1) ∧ jD13 1 (.iload_n 1, 1) ∧ jD13 2 (.if_icmp .lt 7, 3) ∧ jD13 5 (.iload_n 0, 1) := by decide +kernel
theorem e19_6 : jD13 6 (.goto 4, 3) ∧ jD13 10 (.ireturn, 1) := by decide +kernel
theorem own_ef_rm_max0 (mM : MethodId) (x0 : Int32) (x1 : Int32) : entryFrame mM #[(.int x0), (.int x1)] 2 = mkF mM 0 #[.val (.int x0), .val (.int x1)] [] := by first | (simp [entryFrame, mkF, argsToLocals, Value.category]; done) | rfl
def Q_rm_max0 (Z : State)  (h0 : Heap) (n0 : Nat) (vV : Option Value) (hH : Heap) (lA : List Loc) : Prop := vV = some (.int (0 : Int32)) ∧ Fr n0 lA ∧ (hH = h0)
set_option maxRecDepth 65536 in
set_option maxHeartbeats 40000000 in
theorem rm_max0 (lL : Launch) (Z : State) (a0 : Array Value) (hw : own_H a0 Z) (ws : List Jvm.Cond)  (h0 : Heap) (n0 : Nat) (Z0 : n0 ≤ h0.size) :
    own_Met lL jy13 (Jvm.Cond.code jy13 jdk_29_method_65_code 2 (some .int) :: ws) jr0 #[(.int (0 : Int32)), (.int (0 : Int32))] Z h0 (Q_rm_max0 Z  h0 n0) := by
  refine own_begin (Jvm.Free.JP.mathPlain rfl (by decide +kernel)) (fun mM => own_ef_rm_max0 mM (0 : Int32) (0 : Int32)) fun pP eE sS mM below meth cC s₁ hx hby hml hZ hown hnm hre hlk X0 e0 => ?_
  have hC := @Jvm.hb _ _ hby
  have N0 := Fr.nil n0
  have K0 := Keep.refl h0 ([] : List Addr)
  let ll1 : Array Slot := #[vI 0, vI 0]
  refine jg s₁ mM 10 ll1 [(.int (0 : Int32))] (fun tT kK => ?_) ?_
  · refine XS.iloadN X0.here hx rfl (hC e19_0.1) rfl ?_
    refine XS.iloadN X0.here hx rfl (hC e19_0.2.1) rfl ?_
    refine XS.icmpNo X0.here hx rfl (hC e19_0.2.2.1) rfl (flt ((by decide) : ¬ ((0 : Int32) < (0 : Int32)))).1 ?_
    refine XS.iloadN X0.here hx rfl (hC e19_0.2.2.2) rfl ?_
    refine XS.goto X0.here hx rfl (pc0 := 6) (pc' := 10) rfl (hC e19_6.1) (by decide) (by decide) ?_
    exact kK
  exact own_rr X0 hx hlk hre rfl (Or.inl ⟨rfl, Or.inl rfl, _, rfl⟩) (hC e19_6.2) e0 (by decide) (by decide) ⟨rfl, N0, rfl⟩
theorem e20_0 : jD14 0 (.iload_n 0, 1) ∧ jD14 1 (.iload_n 1, 1) ∧ jD14 2 (.if_icmp .gt 7, 3) ∧ jD14 5 (.iload_n 0, 1) := by decide +kernel
theorem e20_6 : jD14 6 (.goto 4, 3) ∧ jD14 10 (.ireturn, 1) := by decide +kernel
theorem own_ef_rm_minz (mM : MethodId) (x0 : Int32) (x1 : Int32) : entryFrame mM #[(.int x0), (.int x1)] 2 = mkF mM 0 #[.val (.int x0), .val (.int x1)] [] := by first | (simp [entryFrame, mkF, argsToLocals, Value.category]; done) | rfl
def Q_rm_minz (Z : State) (z : Int32) (h0 : Heap) (n0 : Nat) (vV : Option Value) (hH : Heap) (lA : List Loc) : Prop := vV = some (.int z) ∧ Fr n0 lA ∧ (hH = h0)
set_option maxRecDepth 65536 in
set_option maxHeartbeats 40000000 in
theorem rm_minz (lL : Launch) (Z : State) (a0 : Array Value) (hw : own_H a0 Z) (ws : List Jvm.Cond) (z : Int32) (h0 : Heap) (n0 : Nat) (Z0 : n0 ≤ h0.size) :
    own_Met lL jy14 (Jvm.Cond.code jy14 jdk_29_method_69_code 2 (some .int) :: ws) jr0 #[(.int z), (.int z)] Z h0 (Q_rm_minz Z z h0 n0) := by
  refine own_begin (Jvm.Free.JP.mathPlain rfl (by decide +kernel)) (fun mM => own_ef_rm_minz mM z z) fun pP eE sS mM below meth cC s₁ hx hby hml hZ hown hnm hre hlk X0 e0 => ?_
  have hC := @Jvm.hb _ _ hby
  have N0 := Fr.nil n0
  have K0 := Keep.refl h0 ([] : List Addr)
  refine jg s₁ mM 10 #[vI z, vI z] [(.int z)] (fun tT kK => ?_) ?_
  · refine XS.iloadN X0.here hx rfl (hC e20_0.1) rfl ?_
    refine XS.iloadN X0.here hx rfl (hC e20_0.2.1) rfl ?_
    refine XS.icmpNo X0.here hx rfl (hC e20_0.2.2.1) rfl (flt (Int32.lt_irrefl (a := z) : ¬ (z < z))).2.2.1 ?_
    refine XS.iloadN X0.here hx rfl (hC e20_0.2.2.2) rfl ?_
    refine XS.goto X0.here hx rfl (pc0 := 6) (pc' := 10) rfl (hC e20_6.1) (by decide) (by decide) ?_
    exact kK
  exact own_rr X0 hx hlk hre rfl (Or.inl ⟨rfl, Or.inl rfl, _, rfl⟩) (hC e20_6.2) e0 (by decide) (by decide) ⟨rfl, N0, rfl⟩
theorem e21_7 : jD15 7 (.iload 5, 2) ∧ jD15 9 (.iload_n 3, 1) ∧ jD15 10 (.if_icmp .ge 21, 3) ∧ jD15 13 (.aload_n 0, 1) := by decide +kernel
theorem e21_14 : jD15 14 (.iload 5, 2) ∧ jD15 16 (.baload, 1) ∧ jD15 17 (.iload 4, 2) ∧ jD15 19 (.if_icmp .ne 6, 3) := by decide +kernel
theorem e21_25 : jD15 25 (.iinc 5 1, 3) ∧ jD15 28 (.goto (-21), 3) := by decide +kernel
set_option maxRecDepth 65536 in
set_option maxHeartbeats 40000000 in
theorem own_lpx {pP : Program} {lL : Launch} {eE : Env} {R : Room} {sS : State} {mM : MethodId} {args : Array Value} {below : List Frame} {meth : Method} {cC : Code} {cells slots : Nat} {PP : State → Outcome → Prop} (Z : State) (a0 : Array Value) (hw : own_H a0 Z) (t : Addr) (p : Int32) (z : Int32) (f : Int32 → Int32) (r : Int32) (h0 : Heap) (n0 : Nat) (Z0 : n0 ≤ h0.size) (Tt : own_T Z h0 t .byte z f) (hx : pP.tables.exec = Jvm.exec) (hZ : Z.Warmed39 sS.vm) (hby : cC.code = jdk_43_method_23_code) (hml : cC.maxLocals = 6) (hown : sS.vm.findClass "java/lang/StringLatin1" = some mM.cls)
    (kont0 : ∀ (Th : State) (hh : Heap) (Lh : List Loc), Stand pP lL eE R sS mM args below meth cC Th Lh cells slots → Th.heap = hh → Fr n0 Lh → Keep h0 hh ([] : List Addr) → (hh = h0) → (r = (-1 : Int32)) → own_Fin pP eE below PP (Th.setTop (mkF mM 31 #[.val (.ref t), .val (.int p), .val (.int (0 : Int32)), .val (.int z), .val (.int (p.toInt8.toInt32)), .val (.int (Int32.ofNat z.toNatClampNeg))] [])))
    (kont1 : ∀ (j : Nat) (Th : State) (hh : Heap) (Lh : List Loc), Stand pP lL eE R sS mM args below meth cC Th Lh cells slots → Th.heap = hh → Fr n0 Lh → Keep h0 hh ([] : List Addr) → (hh = h0) → (r = Int32.ofNat j) → own_Fin pP eE below PP (Th.setTop (mkF mM 22 #[.val (.ref t), .val (.int p), .val (.int (0 : Int32)), .val (.int z), .val (.int (p.toInt8.toInt32)), .val (.int (Int32.ofNat j))] []))) :
    ∀ (k i : Nat) (Th : State) (hh : Heap) (Lh : List Loc), i + k = z.toNatClampNeg → Stand pP lL eE R sS mM args below meth cC Th Lh cells slots → Th.heap = hh → Fr n0 Lh → Keep h0 hh ([] : List Addr) → (hh = h0) → (own_fd f (p.toInt8.toInt32) k i = r) → own_Fin pP eE below PP (Th.setTop (mkF mM 7 #[.val (.ref t), .val (.int p), .val (.int (0 : Int32)), .val (.int z), .val (.int (p.toInt8.toInt32)), .val (.int (Int32.ofNat i))] [])) := by
  have hC := @Jvm.hb _ _ hby
  intro k
  induction k with
  | zero =>
      intro i  Th hh Lh hik Xh eh Nh Kh Ph Pi
      rw [Ph] at eh Kh
      have hz := Tt.nn
      obtain rfl : i = z.toNatClampNeg := by omega
      let ll1 : Array Slot := #[vR t, vI p, vI 0, vI z, vI (p.toInt8.toInt32), vI (Int32.ofNat z.toNatClampNeg)]
      refine jg Th mM 31 ll1 [] (fun tT kK => ?_) ?_
      · refine XS.iload Xh.here hx rfl (hC e21_7.1) rfl ?_
        refine XS.iloadN Xh.here hx rfl (hC e21_7.2.1) rfl ?_
        refine XS.icmpYes Xh.here hx rfl (pc0 := 10) (pc' := 31) rfl (hC e21_7.2.2.1) rfl (flt (own_nlt hz : ¬ ((Int32.ofNat z.toNatClampNeg) < z))).2.1 (by decide) (by decide) ?_
        exact kK
      exact kont0  _ _ _ Xh eh Nh Kh rfl Pi.symm
  | succ k ih =>
      intro i  Th hh Lh hik Xh eh Nh Kh Ph Pi
      rw [Ph] at eh Kh
      have hz := Tt.nn
      have hi : i < z.toNatClampNeg := by omega
      let ll2 : Array Slot := #[vR t, vI p, vI 0, vI z, vI (p.toInt8.toInt32), vI (Int32.ofNat i)]
      refine jg Th mM 16 ll2 [(.int (Int32.ofNat i)), (.ref t)] (fun tT kK => ?_) ?_
      · refine XS.iload Xh.here hx rfl (hC e21_7.1) rfl ?_
        refine XS.iloadN Xh.here hx rfl (hC e21_7.2.1) rfl ?_
        refine XS.icmpNo Xh.here hx rfl (hC e21_7.2.2.1) rfl (tlt (own_ltz hz hi : (Int32.ofNat i) < z)).2.1 ?_
        refine XS.aloadN Xh.here hx rfl (hC e21_7.2.2.2) rfl rfl ?_
        refine XS.iload Xh.here hx rfl (hC e21_14.1) rfl ?_
        exact kK
      obtain ⟨cl1_, Ar1_, Sz1_, Nn1_, Hh1_⟩ := id Tt
      have hin1_ : ¬ ((Int32.ofNat i) < 0 ∨ cl1_.slots.size ≤ ((Int32.ofNat i)).toNatClampNeg) := inb_of Sz1_ (own_inz hz hi)
      have hat1_ : cl1_.slots[((Int32.ofNat i)).toNatClampNeg]? = some (.int (f (Int32.ofNat i))) := Hh1_ _ hin1_
      refine jg Th mM 19 ll2 [(.int (p.toInt8.toInt32)), (.int (f (Int32.ofNat i)))] (fun tT kK => ?_) ?_
      · refine Xh.baloadBytes hx (j := (Int32.ofNat i)) (v := (.int (f (Int32.ofNat i)))) (own_rw eh Ar1_.1) (State.isArrayOf_alike hZ.alike Ar1_.2.1) Ar1_.2.2 hin1_ hat1_ (g := (mkF mM 16 ll2 [(.int (Int32.ofNat i)), (.ref t)])) rfl rfl (hC e21_14.2.1) _ ?_
        refine XS.iload Xh.here hx rfl (hC e21_14.2.2.1) rfl ?_
        exact kK
      by_cases hc19_2_ : (f (Int32.ofNat i)) = (p.toInt8.toInt32)
      · refine jg Th mM 22 ll2 [] (fun tT kK => ?_) ?_
        · refine XS.icmpNo Xh.here hx rfl (hC e21_14.2.2.2) rfl (teq (hc19_2_ : (f (Int32.ofNat i)) = (p.toInt8.toInt32))).2 ?_
          exact kK
        exact kont1 i _ _ _ Xh eh Nh Kh rfl (own_fdy Pi hc19_2_)
      · let ll3 : Array Slot := #[vR t, vI p, vI 0, vI z, vI (p.toInt8.toInt32), vI ((Int32.ofNat i) + (1 : Int32))]
        refine jg Th mM 7 ll3 [] (fun tT kK => ?_) ?_
        · refine XS.icmpYes Xh.here hx rfl (pc0 := 19) (pc' := 25) rfl (hC e21_14.2.2.2) rfl (feq (hc19_2_ : ¬ ((f (Int32.ofNat i)) = (p.toInt8.toInt32)))).2 (by decide) (by decide) ?_
          refine XS.iinc Xh.here hx rfl (hC e21_25.1) rfl (l' := ll3) rfl ?_
          refine XS.goto Xh.here hx rfl (pc0 := 28) (pc' := 7) rfl (hC e21_25.2) (by decide) (by decide) ?_
          exact kK
        show own_Fin pP eE below _ (Th.setTop (mkF mM 7 #[.val (.ref t), .val (.int p), .val (.int (0 : Int32)), .val (.int z), .val (.int (p.toInt8.toInt32)), .val (.int ((Int32.ofNat i) + (1 : Int32)))] []))
        rw [own_one i]
        exact ih (i + 1)  _ _ _ (by omega) Xh eh Nh Kh rfl (own_fdn Pi hc19_2_)
theorem e21_0 : jD15 0 (.iload_n 1, 1) ∧ jD15 1 (.i2b, 1) ∧ jD15 2 (.istore 4, 2) ∧ jD15 4 (.iload_n 2, 1) := by decide +kernel
theorem e21_5 : jD15 5 (.istore 5, 2) ∧ jD15 31 (.iconst (-1), 1) ∧ jD15 32 (.ireturn, 1) ∧ jD15 22 (.iload 5, 2) := by decide +kernel
theorem d21_24 : jD15 24 (.ireturn, 1) := by decide +kernel
theorem own_ef_rm_ixc (mM : MethodId) (x0 : Addr) (x1 : Int32) (x2 : Int32) (x3 : Int32) : entryFrame mM #[(.ref x0), (.int x1), (.int x2), (.int x3)] 6 = mkF mM 0 #[.val (.ref x0), .val (.int x1), .val (.int x2), .val (.int x3), .unset, .unset] [] := by first | (simp [entryFrame, mkF, argsToLocals, Value.category]; done) | rfl
def Q_rm_ixc (Z : State) (t : Addr) (p : Int32) (z : Int32) (f : Int32 → Int32) (h0 : Heap) (n0 : Nat) (vV : Option Value) (hH : Heap) (lA : List Loc) : Prop := vV = some (.int (own_fd f (p.toInt8.toInt32) z.toNatClampNeg 0)) ∧ Fr n0 lA ∧ (hH = h0)
set_option maxRecDepth 65536 in
set_option maxHeartbeats 40000000 in
theorem rm_ixc (lL : Launch) (Z : State) (a0 : Array Value) (hw : own_H a0 Z) (ws : List Jvm.Cond) (t : Addr) (p : Int32) (z : Int32) (f : Int32 → Int32) (h0 : Heap) (n0 : Nat) (Z0 : n0 ≤ h0.size) (Tt : own_T Z h0 t .byte z f) :
    own_Met lL jy15 (Jvm.Cond.code jy15 jdk_43_method_23_code 6 (some .int) :: ws) jr0 #[(.ref t), (.int p), (.int (0 : Int32)), (.int z)] Z h0 (Q_rm_ixc Z t p z f h0 n0) := by
  refine own_begin (plainFor_of_name own_pn_java_lang_StringLatin1) (fun mM => own_ef_rm_ixc mM t p (0 : Int32) z) fun pP eE sS mM below meth cC s₁ hx hby hml hZ hown hnm hre hlk X0 e0 => ?_
  have hC := @Jvm.hb _ _ hby
  have N0 := Fr.nil n0
  have K0 := Keep.refl h0 ([] : List Addr)
  let ll1 : Array Slot := #[vR t, vI p, vI 0, vI z, vI (p.toInt8.toInt32), vI 0]
  refine jg s₁ mM 7 ll1 [] (fun tT kK => ?_) ?_
  · refine XS.iloadN X0.here hx rfl (hC e21_0.1) rfl ?_
    refine XS.i2b X0.here hx rfl (hC e21_0.2.1) rfl ?_
    let ll2 : Array Slot := #[vR t, vI p, vI 0, vI z, vI (p.toInt8.toInt32), vU]
    refine XS.istore X0.here hx rfl (hC e21_0.2.2.1) rfl (l' := ll2) rfl ?_
    refine XS.iloadN X0.here hx rfl (hC e21_0.2.2.2) rfl ?_
    refine XS.istore X0.here hx rfl (hC e21_5.1) rfl (l' := ll1) rfl ?_
    exact kK
  refine own_lpx Z a0 hw t p z f (own_fd f (p.toInt8.toInt32) z.toNatClampNeg 0) h0 n0 Z0 Tt hx hZ hby hml hown ?_ ?_ z.toNatClampNeg 0  _ _ _ (by omega) X0 e0 N0 K0 rfl rfl
  · intro  T1_ h1_ L1_ X1_ e1_ N1_ K1_ p1__0 p1__1
    let ll3 : Array Slot := #[vR t, vI p, vI 0, vI z, vI (p.toInt8.toInt32), vI (Int32.ofNat z.toNatClampNeg)]
    refine jg T1_ mM 32 ll3 [(.int (-1 : Int32))] (fun tT kK => ?_) ?_
    · refine XS.iconst X1_.here hx rfl (hC e21_5.2.1) ?_
      exact kK
    exact own_rr X1_ hx hlk hre rfl (Or.inl ⟨rfl, Or.inl rfl, _, rfl⟩) (hC e21_5.2.2.1) (e1_.trans p1__0) (by decide) (by decide) ⟨by rw [p1__1], N1_, rfl⟩
  · intro j_2_ T2_ h2_ L2_ X2_ e2_ N2_ K2_ p2__0 p2__1
    let ll4 : Array Slot := #[vR t, vI p, vI 0, vI z, vI (p.toInt8.toInt32), vI (Int32.ofNat j_2_)]
    refine jg T2_ mM 24 ll4 [(.int (Int32.ofNat j_2_))] (fun tT kK => ?_) ?_
    · refine XS.iload X2_.here hx rfl (hC e21_5.2.2.2) rfl ?_
      exact kK
    exact own_rr X2_ hx hlk hre rfl (Or.inl ⟨rfl, Or.inl rfl, _, rfl⟩) (hC d21_24) (e2_.trans p2__0) (by decide) (by decide) ⟨by rw [p2__1], N2_, rfl⟩
theorem e17_0 : jD16 0 (.iload_n 1, 1) ∧ jD16 1 (.invokestatic 88, 3) := by decide +kernel
theorem own_pd9 : parseMethodDescriptor "(I)Z" = some ⟨[.int], some .boolean⟩ := by decide +kernel
theorem e17_4 : jD16 4 (.ifCond .ne 5, 3) ∧ jD16 9 (.iload_n 2, 1) ∧ jD16 10 (.iconst 0, 1) ∧ jD16 11 (.invokestatic 92, 3) := by decide +kernel
theorem own_pd10 : parseMethodDescriptor "(II)I" = some ⟨[.int, .int], some .int⟩ := by decide +kernel
theorem e17_14 : jD16 14 (.istore_n 2, 1) ∧ jD16 15 (.iload_n 3, 1) ∧ jD16 16 (.aload_n 0, 1) ∧ jD16 17 (.arraylength, 1) := by decide +kernel
theorem e17_18 : jD16 18 (.invokestatic 38, 3) ∧ jD16 21 (.istore_n 3, 1) ∧ jD16 22 (.iload_n 2, 1) ∧ jD16 23 (.iload_n 3, 1) := by decide +kernel
theorem e17_24 : jD16 24 (.if_icmp .lt 5, 3) ∧ jD16 29 (.aload_n 0, 1) ∧ jD16 30 (.iload_n 1, 1) ∧ jD16 31 (.iload_n 2, 1) := by decide +kernel
theorem e17_32 : jD16 32 (.iload_n 3, 1) ∧ jD16 33 (.invokestatic 95, 3) := by decide +kernel
theorem own_pd11 : parseMethodDescriptor "([BIII)I" = some ⟨[(.array .byte), .int, .int, .int], some .int⟩ := by decide +kernel
theorem d17_36 : jD16 36 (.ireturn, 1) := by decide +kernel
theorem own_ef_rm_ixl (mM : MethodId) (x0 : Addr) (x1 : Int32) (x2 : Int32) (x3 : Int32) : entryFrame mM #[(.ref x0), (.int x1), (.int x2), (.int x3)] 4 = mkF mM 0 #[.val (.ref x0), .val (.int x1), .val (.int x2), .val (.int x3)] [] := by first | (simp [entryFrame, mkF, argsToLocals, Value.category]; done) | rfl
def Q_rm_ixl (Z : State) (t : Addr) (p : Int32) (z : Int32) (f : Int32 → Int32) (h0 : Heap) (n0 : Nat) (vV : Option Value) (hH : Heap) (lA : List Loc) : Prop := vV = some (.int (own_fd f (p.toInt8.toInt32) z.toNatClampNeg 0)) ∧ Fr n0 lA ∧ (hH = h0)
set_option maxRecDepth 65536 in
set_option maxHeartbeats 40000000 in
theorem rm_ixl (lL : Launch) (Z : State) (a0 : Array Value) (hw : own_H a0 Z) (ws : List Jvm.Cond) (t : Addr) (p : Int32) (z : Int32) (f : Int32 → Int32) (h0 : Heap) (n0 : Nat) (Z0 : n0 ≤ h0.size) (Tt : own_T Z h0 t .byte z f) (h1 : ¬ (p < (0 : Int32))) (h2 : ¬ ((255 : Int32) < p)) (hnz : ¬ (z = (0 : Int32))) :
    own_Met lL jy16 (Jvm.Cond.code jy16 jdk_43_method_22_code 4 (some .int) :: ws) jr8 #[(.ref t), (.int p), (.int (0 : Int32)), (.int z)] Z h0 (Q_rm_ixl Z t p z f h0 n0) := by
  refine own_begin (plainFor_of_name own_pn_java_lang_StringLatin1) (fun mM => own_ef_rm_ixl mM t p (0 : Int32) z) fun pP eE sS mM below meth cC s₁ hx hby hml hZ hown hnm hre hlk X0 e0 => ?_
  have hC := @Jvm.hb _ _ hby
  have N0 := Fr.nil n0
  have K0 := Keep.refl h0 ([] : List Addr)
  have hz := Tt.nn
  let ll1 : Array Slot := #[vR t, vI p, vI 0, vI z]
  refine jg s₁ mM 1 ll1 [(.int p)] (fun tT kK => ?_) ?_
  · refine XS.iloadN X0.here hx rfl (hC e17_0.1) rfl ?_
    exact kK
  refine jc X0 hx hZ (y := jy12) hown (jk hw 91 rfl) (jk hw 92 rfl) (jk hw 89 rfl) (jk hw 93 rfl) (rm_can lL Z a0 hw [] p h0 n0 (Nat.le_trans Z0 K0.1) h1 h2) e0 own_pd9 [(.int p)] [] (hC e17_0.2) rfl rfl (by rw [hml]; rfl) (by decide) 0 (Nat.le_of_eq rfl) (by decide) (by decide) (by decide : 0 + 0 ≤ _) (by decide : 0 + 0 ≤ _) fun vv1_ T1_ L1_ X1_ hQ1_ => ?_
  obtain ⟨rfl, N1_q, p1__0⟩ := hQ1_
  have N1_ := Fr.app N0 N1_q
  refine jg T1_ mM 11 ll1 [(.int (0 : Int32)), (.int (0 : Int32))] (fun tT kK => ?_) ?_
  · refine XS.ifYes X1_.here hx rfl (pc0 := 4) (pc' := 9) rfl (hC e17_4.1) rfl ((if0 _ _).trans (feq ((by decide) : ¬ ((1 : Int32) = (0 : Int32)))).2) (by decide) (by decide) ?_
    refine XS.iloadN X1_.here hx rfl (hC e17_4.2.1) rfl ?_
    refine XS.iconst X1_.here hx rfl (hC e17_4.2.2.1) ?_
    exact kK
  refine jc X1_ hx hZ (y := jy13) hown (jk hw 94 rfl) (jk hw 95 rfl) (jk hw 96 rfl) (jk hw 97 rfl) (rm_max0 lL Z a0 hw []  h0 n0 (Nat.le_trans Z0 K0.1) ) p1__0 own_pd10 [(.int (0 : Int32)), (.int (0 : Int32))] [] (hC e17_4.2.2.2) rfl rfl (by rw [hml]; rfl) (by decide) 0 (Nat.le_of_eq rfl) (by decide) (by decide) (by decide : 0 + 0 ≤ _) (by decide : 0 + 0 ≤ _) fun vv2_ T2_ L2_ X2_ hQ2_ => ?_
  obtain ⟨rfl, N2_q, p2__0⟩ := hQ2_
  have N2_ := Fr.app N1_ N2_q
  refine jg T2_ mM 17 ll1 [(.ref t), (.int z)] (fun tT kK => ?_) ?_
  · refine XS.istoreN X2_.here hx rfl (hC e17_14.1) rfl (l' := ll1) rfl ?_
    refine XS.iloadN X2_.here hx rfl (hC e17_14.2.1) rfl ?_
    refine XS.aloadN X2_.here hx rfl (hC e17_14.2.2.1) rfl rfl ?_
    exact kK
  obtain ⟨cl3_, Ar3_, Sz3_, Nn3_, -⟩ := id Tt
  refine jg T2_ mM 18 ll1 [(.int z), (.int z)] (fun tT kK => ?_) ?_
  · refine X2_.arraylength hx (own_rw p2__0 Ar3_.1) (State.isArrayOf_alike hZ.alike Ar3_.2.1) (g := (mkF mM 17 ll1 [(.ref t), (.int z)])) rfl rfl (hC e17_14.2.2.2) _ ?_
    rw [len_of Sz3_ Nn3_]
    exact kK
  refine jc X2_ hx hZ (y := jy14) hown (jk hw 98 rfl) (jk hw 99 rfl) (jk hw 96 rfl) (jk hw 100 rfl) (rm_minz lL Z a0 hw [] z h0 n0 (Nat.le_trans Z0 K0.1) ) p2__0 own_pd10 [(.int z), (.int z)] [] (hC e17_18.1) rfl rfl (by rw [hml]; rfl) (by decide) 0 (Nat.le_of_eq rfl) (by decide) (by decide) (by decide : 0 + 0 ≤ _) (by decide : 0 + 0 ≤ _) fun vv4_ T4_ L4_ X4_ hQ4_ => ?_
  obtain ⟨rfl, N4_q, p4__0⟩ := hQ4_
  have N4_ := Fr.app N2_ N4_q
  refine jg T4_ mM 33 ll1 [(.int z), (.int (0 : Int32)), (.int p), (.ref t)] (fun tT kK => ?_) ?_
  · refine XS.istoreN X4_.here hx rfl (hC e17_18.2.1) rfl (l' := ll1) rfl ?_
    refine XS.iloadN X4_.here hx rfl (hC e17_18.2.2.1) rfl ?_
    refine XS.iloadN X4_.here hx rfl (hC e17_18.2.2.2) rfl ?_
    refine XS.icmpYes X4_.here hx rfl (pc0 := 24) (pc' := 29) rfl (hC e17_24.1) rfl (tlt (own_zpos hz hnz : (0 : Int32) < z)).1 (by decide) (by decide) ?_
    refine XS.aloadN X4_.here hx rfl (hC e17_24.2.1) rfl rfl ?_
    refine XS.iloadN X4_.here hx rfl (hC e17_24.2.2.1) rfl ?_
    refine XS.iloadN X4_.here hx rfl (hC e17_24.2.2.2) rfl ?_
    refine XS.iloadN X4_.here hx rfl (hC e17_32.1) rfl ?_
    exact kK
  refine jc X4_ hx hZ (y := jy15) hown (jk hw 101 rfl) (jk hw 102 rfl) (jk hw 89 rfl) (jk hw 103 rfl) (rm_ixc lL Z a0 hw [] t p z f h0 n0 (Nat.le_trans Z0 K0.1) Tt) p4__0 own_pd11 [(.ref t), (.int p), (.int (0 : Int32)), (.int z)] [] (hC e17_32.2) rfl rfl (by rw [hml]; rfl) (by decide) 0 (Nat.le_of_eq rfl) (by decide) (by decide) (by decide : 0 + 0 ≤ _) (by decide : 0 + 0 ≤ _) fun vv5_ T5_ L5_ X5_ hQ5_ => ?_
  obtain ⟨rfl, N5_q, p5__0⟩ := hQ5_
  have N5_ := Fr.app N4_ N5_q
  exact own_rr X5_ hx hlk hre rfl (Or.inl ⟨rfl, Or.inl rfl, _, rfl⟩) (hC d17_36) p5__0 (by decide) (by decide) ⟨rfl, N5_, rfl⟩
theorem e13_0 : jD17 0 (.aload_n 0, 1) ∧ jD17 1 (.invokevirtual 492, 3) ∧ jD17 4 (.ifCond .eq 19, 3) ∧ jD17 7 (.aload_n 0, 1) := by decide +kernel
theorem e13_8 : jD17 8 (.getfield 9, 3) ∧ jD17 11 (.iload_n 1, 1) ∧ jD17 12 (.iload_n 2, 1) ∧ jD17 13 (.aload_n 0, 1) := by decide +kernel
theorem d13_14 : jD17 14 (.invokevirtual 505, 3) := by decide +kernel
theorem own_pd12 : parseMethodDescriptor "()I" = some ⟨[], some .int⟩ := by decide +kernel
theorem e13_17 : jD17 17 (.invokestatic 637, 3) ∧ jD17 20 (.goto 16, 3) ∧ jD17 36 (.ireturn, 1) := by decide +kernel
theorem own_ef_rm_ix2 (mM : MethodId) (x0 : Addr) (x1 : Int32) (x2 : Int32) : entryFrame mM #[(.ref x0), (.int x1), (.int x2)] 3 = mkF mM 0 #[.val (.ref x0), .val (.int x1), .val (.int x2)] [] := by first | (simp [entryFrame, mkF, argsToLocals, Value.category]; done) | rfl
def Q_rm_ix2 (Z : State) (a : Addr) (p : Int32) (t : Addr) (z : Int32) (f : Int32 → Int32) (cs : Int32) (h0 : Heap) (n0 : Nat) (vV : Option Value) (hH : Heap) (lA : List Loc) : Prop := vV = some (.int (own_fd f (p.toInt8.toInt32) z.toNatClampNeg 0)) ∧ Fr n0 lA ∧ (hH = h0)
set_option maxRecDepth 65536 in
set_option maxHeartbeats 40000000 in
theorem rm_ix2 (lL : Launch) (Z : State) (a0 : Array Value) (hw : own_H a0 Z) (ws : List Jvm.Cond) (a : Addr) (p : Int32) (t : Addr) (z : Int32) (f : Int32 → Int32) (cs : Int32) (h0 : Heap) (n0 : Nat) (Z0 : n0 ≤ h0.size) (Oo : Old Z n0 h0) (Scs : Sta Z Z.heap "java/lang/String" "COMPACT_STRINGS" "Z" (.int cs)) (ncs : ¬ (cs = (0 : Int32))) (Ea : jE0 Z h0 a) (Fv : jF1 Z h0 a (.ref t)) (Fc : jF0 Z h0 a (.int (0 : Int32))) (Tt : own_T Z h0 t .byte z f) (h1 : ¬ (p < (0 : Int32))) (h2 : ¬ ((255 : Int32) < p)) (hnz : ¬ (z = (0 : Int32))) :
    own_Met lL jy17 (Jvm.Cond.code jy17 jdk_42_method_80_code 3 (some .int) :: ws) jr9 #[(.ref a), (.int p), (.int (0 : Int32))] Z h0 (Q_rm_ix2 Z a p t z f cs h0 n0) := by
  refine own_begin (plainFor_of_name own_pn_java_lang_String) (fun mM => own_ef_rm_ix2 mM a p (0 : Int32)) fun pP eE sS mM below meth cC s₁ hx hby hml hZ hown hnm hre hlk X0 e0 => ?_
  have hC := @Jvm.hb _ _ hby
  have N0 := Fr.nil n0
  have K0 := Keep.refl h0 ([] : List Addr)
  let ll1 : Array Slot := #[vR a, vI p, vI 0]
  refine jg s₁ mM 1 ll1 [(.ref a)] (fun tT kK => ?_) ?_
  · refine XS.aloadN X0.here hx rfl (hC e13_0.1) rfl rfl ?_
    exact kK
  refine jv X0 hx hZ (y := jy4) hown (jk hw 72 rfl) (jk hw 73 rfl) (jk hw 75 rfl) (jk hw 74 rfl) (jk hw 76 rfl) (jk hw 26 rfl) (rm_isl lL Z a0 hw [] a cs h0 n0 (Nat.le_trans Z0 K0.1) Oo Scs ncs Fc) Ea e0 own_pd3 [] [] (hC e13_0.2.1) rfl rfl (by rw [hml]; rfl) (by decide) 0 (Nat.le_of_eq rfl) (by decide) (by decide) (by decide : 0 + 0 ≤ _) (by decide : 0 + 0 ≤ _) fun vv1_ T1_ L1_ X1_ hQ1_ => ?_
  obtain ⟨rfl, N1_q, p1__0⟩ := hQ1_
  have N1_ := Fr.app N0 N1_q
  refine jg T1_ mM 8 ll1 [(.ref a)] (fun tT kK => ?_) ?_
  · refine XS.ifNo X1_.here hx rfl (hC e13_0.2.2.1) rfl ((if0 _ _).trans (feq ((by decide) : ¬ ((1 : Int32) = (0 : Int32)))).1) ?_
    refine XS.aloadN X1_.here hx rfl (hC e13_0.2.2.2) rfl rfl ?_
    exact kK
  refine jf X1_ hx hZ hown (jk hw 51 rfl) p1__0 Fv (hC e13_8.1) fun T2_ X2_ e2_ => ?_
  refine jg T2_ mM 14 ll1 [(.ref a), (.int (0 : Int32)), (.int p), (.ref t)] (fun tT kK => ?_) ?_
  · refine XS.iloadN X2_.here hx rfl (hC e13_8.2.1) rfl ?_
    refine XS.iloadN X2_.here hx rfl (hC e13_8.2.2.1) rfl ?_
    refine XS.aloadN X2_.here hx rfl (hC e13_8.2.2.2) rfl rfl ?_
    exact kK
  refine jv X2_ hx hZ (y := jy1) hown (jk hw 77 rfl) (jk hw 78 rfl) (jk hw 80 rfl) (jk hw 79 rfl) (jk hw 81 rfl) (jk hw 26 rfl) (rm_slen lL Z a0 hw [] a t z f cs h0 n0 (Nat.le_trans Z0 K0.1) Oo Scs ncs Ea Fv Fc Tt) Ea e2_ own_pd12 [] [(.int (0 : Int32)), (.int p), (.ref t)] (hC d13_14) rfl rfl (by rw [hml]; rfl) (by decide) 3 (Nat.le_of_eq rfl) (by decide) (by decide) (by decide : 0 + 0 ≤ _) (by decide : 0 + 0 ≤ _) fun vv3_ T3_ L3_ X3_ hQ3_ => ?_
  obtain ⟨rfl, N3_q, p3__0⟩ := hQ3_
  have N3_ := Fr.app N1_ N3_q
  refine jc X3_ hx hZ (y := jy16) hown (jk hw 87 rfl) (jk hw 88 rfl) (jk hw 89 rfl) (jk hw 90 rfl) (rm_ixl lL Z a0 hw [] t p z f h0 n0 (Nat.le_trans Z0 K0.1) Tt h1 h2 hnz) p3__0 own_pd11 [(.ref t), (.int p), (.int (0 : Int32)), (.int z)] [] (hC e13_17.1) rfl rfl (by rw [hml]; rfl) (by decide) 0 (Nat.le_of_eq rfl) (by decide) (by decide) (by decide : 0 + 0 ≤ _) (by decide : 0 + 0 ≤ _) fun vv4_ T4_ L4_ X4_ hQ4_ => ?_
  obtain ⟨rfl, N4_q, p4__0⟩ := hQ4_
  have N4_ := Fr.app N3_ N4_q
  refine jg T4_ mM 36 ll1 [(.int (own_fd f (p.toInt8.toInt32) z.toNatClampNeg 0))] (fun tT kK => ?_) ?_
  · refine XS.goto X4_.here hx rfl (pc0 := 20) (pc' := 36) rfl (hC e13_17.2.1) (by decide) (by decide) ?_
    exact kK
  exact own_rr X4_ hx hlk hre rfl (Or.inl ⟨rfl, Or.inl rfl, _, rfl⟩) (hC e13_17.2.2) p4__0 (by decide) (by decide) ⟨rfl, N4_, rfl⟩
theorem e12_0 : jD18 0 (.aload_n 0, 1) ∧ jD18 1 (.iload_n 1, 1) ∧ jD18 2 (.iconst 0, 1) ∧ jD18 3 (.invokevirtual 633, 3) := by decide +kernel
theorem d12_6 : jD18 6 (.ireturn, 1) := by decide +kernel
theorem own_ef_rm_ix (mM : MethodId) (x0 : Addr) (x1 : Int32) : entryFrame mM #[(.ref x0), (.int x1)] 2 = mkF mM 0 #[.val (.ref x0), .val (.int x1)] [] := by first | (simp [entryFrame, mkF, argsToLocals, Value.category]; done) | rfl
def Q_rm_ix (Z : State) (a : Addr) (p : Int32) (t : Addr) (z : Int32) (f : Int32 → Int32) (cs : Int32) (h0 : Heap) (n0 : Nat) (vV : Option Value) (hH : Heap) (lA : List Loc) : Prop := vV = some (.int (own_fd f (p.toInt8.toInt32) z.toNatClampNeg 0)) ∧ Fr n0 lA ∧ (hH = h0)
set_option maxRecDepth 65536 in
set_option maxHeartbeats 40000000 in
theorem rm_ix (lL : Launch) (Z : State) (a0 : Array Value) (hw : own_H a0 Z) (ws : List Jvm.Cond) (a : Addr) (p : Int32) (t : Addr) (z : Int32) (f : Int32 → Int32) (cs : Int32) (h0 : Heap) (n0 : Nat) (Z0 : n0 ≤ h0.size) (Oo : Old Z n0 h0) (Scs : Sta Z Z.heap "java/lang/String" "COMPACT_STRINGS" "Z" (.int cs)) (ncs : ¬ (cs = (0 : Int32))) (Ea : jE0 Z h0 a) (Fv : jF1 Z h0 a (.ref t)) (Fc : jF0 Z h0 a (.int (0 : Int32))) (Tt : own_T Z h0 t .byte z f) (h1 : ¬ (p < (0 : Int32))) (h2 : ¬ ((255 : Int32) < p)) (hnz : ¬ (z = (0 : Int32))) :
    own_Met lL jy18 (Jvm.Cond.code jy18 jdk_42_method_79_code 2 (some .int) :: ws) jr10 #[(.ref a), (.int p)] Z h0 (Q_rm_ix Z a p t z f cs h0 n0) := by
  refine own_begin (plainFor_of_name own_pn_java_lang_String) (fun mM => own_ef_rm_ix mM a p) fun pP eE sS mM below meth cC s₁ hx hby hml hZ hown hnm hre hlk X0 e0 => ?_
  have hC := @Jvm.hb _ _ hby
  have N0 := Fr.nil n0
  have K0 := Keep.refl h0 ([] : List Addr)
  refine jg s₁ mM 3 #[vR a, vI p] [(.int (0 : Int32)), (.int p), (.ref a)] (fun tT kK => ?_) ?_
  · refine XS.aloadN X0.here hx rfl (hC e12_0.1) rfl rfl ?_
    refine XS.iloadN X0.here hx rfl (hC e12_0.2.1) rfl ?_
    refine XS.iconst X0.here hx rfl (hC e12_0.2.2.1) ?_
    exact kK
  refine jv X0 hx hZ (y := jy17) hown (jk hw 67 rfl) (jk hw 68 rfl) (jk hw 70 rfl) (jk hw 69 rfl) (jk hw 71 rfl) (jk hw 26 rfl) (rm_ix2 lL Z a0 hw [] a p t z f cs h0 n0 (Nat.le_trans Z0 K0.1) Oo Scs ncs Ea Fv Fc Tt h1 h2 hnz) Ea e0 own_pd10 [(.int p), (.int (0 : Int32))] [] (hC e12_0.2.2.2) rfl rfl (by rw [hml]; rfl) (by decide) 0 (Nat.le_of_eq rfl) (by decide) (by decide) (by decide : 0 + 0 ≤ _) (by decide : 0 + 0 ≤ _) fun vv1_ T1_ L1_ X1_ hQ1_ => ?_
  obtain ⟨rfl, N1_q, p1__0⟩ := hQ1_
  have N1_ := Fr.app N0 N1_q
  exact own_rr X1_ hx hlk hre rfl (Or.inl ⟨rfl, Or.inl rfl, _, rfl⟩) (hC d12_6) p1__0 (by decide) (by decide) ⟨rfl, N1_, rfl⟩
def own_dg (c : Int32) (m : Int64) : Int64 := if c < (48 : Int32) then m else (if (57 : Int32) < c then m else (if (10000000000 : Int64) < (((m * (10 : Int64)) + (c.toInt64)) - (48 : Int64)) then (10000000000 : Int64) else (((m * (10 : Int64)) + (c.toInt64)) - (48 : Int64))))
def own_mg (f : Int32 → Int32) : Nat → Nat → Int64 → Int64
  | 0, _, m => m
  | k + 1, i, m => own_mg f k (i + 1) (own_dg (own_ch (f (Int32.ofNat i))) m)
def own_mark (f : Int32 → Int32) (z : Int32) : Int32 := if own_fd f ((101 : Int32).toInt8.toInt32) z.toNatClampNeg 0 < (0 : Int32) then (if own_fd f ((69 : Int32).toInt8.toInt32) z.toNatClampNeg 0 < (0 : Int32) then z else own_fd f ((69 : Int32).toInt8.toInt32) z.toNatClampNeg 0) else own_fd f ((101 : Int32).toInt8.toInt32) z.toNatClampNeg 0
theorem e28_0 : jD19 0 (.lload_n 0, 1) ∧ jD19 1 (.lload_n 2, 1) ∧ jD19 2 (.lcmp, 1) ∧ jD19 3 (.ifCond .gt 7, 3) := by decide +kernel
theorem e28_10 : jD19 10 (.lload_n 2, 1) ∧ jD19 11 (.lreturn, 1) ∧ jD19 6 (.lload_n 0, 1) ∧ jD19 7 (.goto 4, 3) := by decide +kernel
theorem own_ef_rm_minj (mM : MethodId) (x0 : Int64) (x1 : Int64) : entryFrame mM #[(.long x0), (.long x1)] 4 = mkF mM 0 #[.val (.long x0), .second, .val (.long x1), .second] [] := by first | (simp [entryFrame, mkF, argsToLocals, Value.category]; done) | rfl
def Q_rm_minj (Z : State) (u : Int64) (v : Int64) (h0 : Heap) (n0 : Nat) (vV : Option Value) (hH : Heap) (lA : List Loc) : Prop := vV = some (.long (if v < u then v else u)) ∧ Fr n0 lA ∧ (hH = h0)
set_option maxRecDepth 65536 in
set_option maxHeartbeats 40000000 in
theorem rm_minj (lL : Launch) (Z : State) (a0 : Array Value) (hw : own_H a0 Z) (ws : List Jvm.Cond) (u : Int64) (v : Int64) (h0 : Heap) (n0 : Nat) (Z0 : n0 ≤ h0.size) :
    own_Met lL jy19 (Jvm.Cond.code jy19 jdk_29_method_70_code 4 (some .long) :: ws) jr0 #[(.long u), (.long v)] Z h0 (Q_rm_minj Z u v h0 n0) := by
  refine own_begin (Jvm.Free.JP.mathPlain rfl (by decide +kernel)) (fun mM => own_ef_rm_minj mM u v) fun pP eE sS mM below meth cC s₁ hx hby hml hZ hown hnm hre hlk X0 e0 => ?_
  have hC := @Jvm.hb _ _ hby
  have N0 := Fr.nil n0
  have K0 := Keep.refl h0 ([] : List Addr)
  let ll1 : Array Slot := #[vJ u, vS, vJ v, vS]
  refine jg s₁ mM 3 ll1 [(.int (lcmpW u v))] (fun tT kK => ?_) ?_
  · refine XS.lloadN X0.here hx rfl (hC e28_0.1) rfl ?_
    refine XS.lloadN X0.here hx rfl (hC e28_0.2.1) rfl ?_
    refine XS.lcmp X0.here hx rfl (hC e28_0.2.2.1) rfl ?_
    exact kK
  by_cases hc3_1_ : v < u
  · refine jg s₁ mM 11 ll1 [(.long v)] (fun tT kK => ?_) ?_
    · refine XS.ifYes X0.here hx rfl (pc0 := 3) (pc' := 10) rfl (hC e28_0.2.2.2) rfl ((if0 _ _).trans (tlt ((lw_gt u v).mpr (hc3_1_ : v < u))).2.2.1) (by decide) (by decide) ?_
      refine XS.lloadN X0.here hx rfl (hC e28_10.1) rfl ?_
      exact kK
    exact own_rr X0 hx hlk hre rfl (Or.inr (Or.inl ⟨rfl, rfl, _, rfl⟩)) (hC e28_10.2.1) e0 (by decide) (by decide) ⟨by rw [if_pos hc3_1_], N0, rfl⟩
  · refine jg s₁ mM 11 ll1 [(.long u)] (fun tT kK => ?_) ?_
    · refine XS.ifNo X0.here hx rfl (hC e28_0.2.2.2) rfl ((if0 _ _).trans (flt (mt (lw_gt u v).mp (hc3_1_ : ¬ (v < u)))).2.2.1) ?_
      refine XS.lloadN X0.here hx rfl (hC e28_10.2.2.1) rfl ?_
      refine XS.goto X0.here hx rfl (pc0 := 7) (pc' := 11) rfl (hC e28_10.2.2.2) (by decide) (by decide) ?_
      exact kK
    exact own_rr X0 hx hlk hre rfl (Or.inr (Or.inl ⟨rfl, rfl, _, rfl⟩)) (hC e28_10.2.1) e0 (by decide) (by decide) ⟨by rw [if_neg hc3_1_], N0, rfl⟩
theorem e11_0 : jD20 0 (.aload_n 0, 1) ∧ jD20 1 (.bipush 101, 2) ∧ jD20 3 (.invokevirtual 65, 3) := by decide +kernel
theorem own_pd13 : parseMethodDescriptor "(I)I" = some ⟨[.int], some .int⟩ := by decide +kernel
theorem e11_6 : jD20 6 (.istore_n 1, 1) ∧ jD20 7 (.aload_n 0, 1) ∧ jD20 8 (.bipush 69, 2) ∧ jD20 10 (.invokevirtual 65, 3) := by decide +kernel
theorem e11_13 : jD20 13 (.istore_n 2, 1) ∧ jD20 14 (.iload_n 1, 1) ∧ jD20 15 (.ifCond .lt 8, 3) ∧ jD20 23 (.iload_n 2, 1) := by decide +kernel
theorem e11_24 : jD20 24 (.ifCond .lt 8, 3) ∧ jD20 32 (.aload_n 0, 1) ∧ jD20 33 (.invokevirtual 69, 3) ∧ jD20 36 (.istore_n 3, 1) := by decide +kernel
theorem e11_37 : jD20 37 (.iload_n 3, 1) ∧ jD20 38 (.ireturn, 1) ∧ jD20 27 (.iload_n 2, 1) ∧ jD20 28 (.istore_n 3, 1) := by decide +kernel
theorem e11_29 : jD20 29 (.goto 8, 3) ∧ jD20 18 (.iload_n 1, 1) ∧ jD20 19 (.istore_n 3, 1) ∧ jD20 20 (.goto 17, 3) := by decide +kernel
theorem own_pn_com_example_vestwright_vestwright_InputNumbers : plainName "com/example/vestwright/vestwright/InputNumbers" = true := by first | (simp [plainName, overriddenIn]; done) | decide +kernel
theorem own_ef_rm_mark (mM : MethodId) (x0 : Addr) : entryFrame mM #[(.ref x0)] 4 = mkF mM 0 #[.val (.ref x0), .unset, .unset, .unset] [] := by first | (simp [entryFrame, mkF, argsToLocals, Value.category]; done) | rfl
def Q_rm_mark (Z : State) (a : Addr) (t : Addr) (z : Int32) (f : Int32 → Int32) (cs : Int32) (fv : Value) (h0 : Heap) (n0 : Nat) (vV : Option Value) (hH : Heap) (lA : List Loc) : Prop := vV = some (.int (own_mark f z)) ∧ Fr n0 lA ∧ (hH = h0)
set_option maxRecDepth 65536 in
set_option maxHeartbeats 40000000 in
theorem rm_mark (lL : Launch) (Z : State) (a0 : Array Value) (hw : own_H a0 Z) (ws : List Jvm.Cond) (a : Addr) (t : Addr) (z : Int32) (f : Int32 → Int32) (cs : Int32) (fv : Value) (h0 : Heap) (n0 : Nat) (Z0 : n0 ≤ h0.size) (Oo : Old Z n0 h0) (Scs : Sta Z Z.heap "java/lang/String" "COMPACT_STRINGS" "Z" (.int cs)) (ncs : ¬ (cs = (0 : Int32))) (Sfv : Sta Z Z.heap "jdk/internal/util/Preconditions" "SIOOBE_FORMATTER" "Ljava/util/function/BiFunction;" fv) (rfv : fv.isRef = true) (Ea : jE0 Z h0 a) (Fv : jF1 Z h0 a (.ref t)) (Fc : jF0 Z h0 a (.int (0 : Int32))) (Tt : own_T Z h0 t .byte z f) (hnz : ¬ (z = (0 : Int32))) :
    own_Met lL jy20 (Jvm.Cond.code jy20 prog_5_method_9_code 4 (some .int) :: ws) jr11 #[(.ref a)] Z h0 (Q_rm_mark Z a t z f cs fv h0 n0) := by
  refine own_begin (plainFor_of_name own_pn_com_example_vestwright_vestwright_InputNumbers) (fun mM => own_ef_rm_mark mM a) fun pP eE sS mM below meth cC s₁ hx hby hml hZ hown hnm hre hlk X0 e0 => ?_
  have hC := @Jvm.hb _ _ hby
  have N0 := Fr.nil n0
  have K0 := Keep.refl h0 ([] : List Addr)
  refine jg s₁ mM 3 #[vR a, vU, vU, vU] [(.int (101 : Int32)), (.ref a)] (fun tT kK => ?_) ?_
  · refine XS.aloadN X0.here hx rfl (hC e11_0.1) rfl rfl ?_
    refine XS.bipush X0.here hx rfl (hC e11_0.2.1) ?_
    exact kK
  refine jv X0 hx hZ (y := jy18) hown (jk hw 62 rfl) (jk hw 63 rfl) (jk hw 65 rfl) (jk hw 64 rfl) (jk hw 66 rfl) (jk hw 26 rfl) (rm_ix lL Z a0 hw [] a (101 : Int32) t z f cs h0 n0 (Nat.le_trans Z0 K0.1) Oo Scs ncs Ea Fv Fc Tt (by decide) (by decide) hnz) Ea e0 own_pd13 [(.int (101 : Int32))] [] (hC e11_0.2.2) rfl rfl (by rw [hml]; rfl) (by decide) 0 (Nat.le_of_eq rfl) (by decide) (by decide) (by decide : 0 + 0 ≤ _) (by decide : 0 + 0 ≤ _) fun vv1_ T1_ L1_ X1_ hQ1_ => ?_
  obtain ⟨rfl, N1_q, p1__0⟩ := hQ1_
  have N1_ := Fr.app N0 N1_q
  let ll1 : Array Slot := #[vR a, vI (own_fd f ((101 : Int32).toInt8.toInt32) z.toNatClampNeg 0), vU, vU]
  refine jg T1_ mM 7 ll1 [] (fun tT kK => ?_) ?_
  · refine XS.istoreN X1_.here hx rfl (hC e11_6.1) rfl (l' := ll1) rfl ?_
    exact kK
  show own_Fin pP eE below _ (T1_.setTop (mkF mM 7 #[.val (.ref a), .val (.int (own_fd f ((101 : Int32).toInt8.toInt32) z.toNatClampNeg 0)), .unset, .unset] []))
  generalize hlo : (own_fd f ((101 : Int32).toInt8.toInt32) z.toNatClampNeg 0) = lo
  refine jg T1_ mM 10 #[vR a, vI lo, vU, vU] [(.int (69 : Int32)), (.ref a)] (fun tT kK => ?_) ?_
  · refine XS.aloadN X1_.here hx rfl (hC e11_6.2.1) rfl rfl ?_
    refine XS.bipush X1_.here hx rfl (hC e11_6.2.2.1) ?_
    exact kK
  refine jv X1_ hx hZ (y := jy18) hown (jk hw 62 rfl) (jk hw 63 rfl) (jk hw 65 rfl) (jk hw 64 rfl) (jk hw 66 rfl) (jk hw 26 rfl) (rm_ix lL Z a0 hw [] a (69 : Int32) t z f cs h0 n0 (Nat.le_trans Z0 K0.1) Oo Scs ncs Ea Fv Fc Tt (by decide) (by decide) hnz) Ea p1__0 own_pd13 [(.int (69 : Int32))] [] (hC e11_6.2.2.2) rfl rfl (by rw [hml]; rfl) (by decide) 0 (Nat.le_of_eq rfl) (by decide) (by decide) (by decide : 0 + 0 ≤ _) (by decide : 0 + 0 ≤ _) fun vv2_ T2_ L2_ X2_ hQ2_ => ?_
  obtain ⟨rfl, N2_q, p2__0⟩ := hQ2_
  have N2_ := Fr.app N1_ N2_q
  let ll2 : Array Slot := #[vR a, vI lo, vI (own_fd f ((69 : Int32).toInt8.toInt32) z.toNatClampNeg 0), vU]
  refine jg T2_ mM 14 ll2 [] (fun tT kK => ?_) ?_
  · refine XS.istoreN X2_.here hx rfl (hC e11_13.1) rfl (l' := ll2) rfl ?_
    exact kK
  show own_Fin pP eE below _ (T2_.setTop (mkF mM 14 #[.val (.ref a), .val (.int lo), .val (.int (own_fd f ((69 : Int32).toInt8.toInt32) z.toNatClampNeg 0)), .unset] []))
  generalize hup : (own_fd f ((69 : Int32).toInt8.toInt32) z.toNatClampNeg 0) = up
  let ll3 : Array Slot := #[vR a, vI lo, vI up, vU]
  refine jg T2_ mM 15 ll3 [(.int lo)] (fun tT kK => ?_) ?_
  · refine XS.iloadN X2_.here hx rfl (hC e11_13.2.1) rfl ?_
    exact kK
  by_cases hc15_3_ : lo < (0 : Int32)
  · refine jg T2_ mM 24 ll3 [(.int up)] (fun tT kK => ?_) ?_
    · refine XS.ifYes X2_.here hx rfl (pc0 := 15) (pc' := 23) rfl (hC e11_13.2.2.1) rfl ((if0 _ _).trans (tlt (hc15_3_ : lo < (0 : Int32))).1) (by decide) (by decide) ?_
      refine XS.iloadN X2_.here hx rfl (hC e11_13.2.2.2) rfl ?_
      exact kK
    by_cases hc24_4_ : up < (0 : Int32)
    · refine jg T2_ mM 33 ll3 [(.ref a)] (fun tT kK => ?_) ?_
      · refine XS.ifYes X2_.here hx rfl (pc0 := 24) (pc' := 32) rfl (hC e11_24.1) rfl ((if0 _ _).trans (tlt (hc24_4_ : up < (0 : Int32))).1) (by decide) (by decide) ?_
        refine XS.aloadN X2_.here hx rfl (hC e11_24.2.1) rfl rfl ?_
        exact kK
      refine jv X2_ hx hZ (y := jy1) hown (jk hw 104 rfl) (jk hw 78 rfl) (jk hw 80 rfl) (jk hw 79 rfl) (jk hw 81 rfl) (jk hw 26 rfl) (rm_slen lL Z a0 hw [] a t z f cs h0 n0 (Nat.le_trans Z0 K0.1) Oo Scs ncs Ea Fv Fc Tt) Ea p2__0 own_pd12 [] [] (hC e11_24.2.2.1) rfl rfl (by rw [hml]; rfl) (by decide) 0 (Nat.le_of_eq rfl) (by decide) (by decide) (by decide : 0 + 0 ≤ _) (by decide : 0 + 0 ≤ _) fun vv5_ T5_ L5_ X5_ hQ5_ => ?_
      obtain ⟨rfl, N5_q, p5__0⟩ := hQ5_
      have N5_ := Fr.app N2_ N5_q
      let ll4 : Array Slot := #[vR a, vI lo, vI up, vI z]
      refine jg T5_ mM 38 ll4 [(.int z)] (fun tT kK => ?_) ?_
      · refine XS.istoreN X5_.here hx rfl (hC e11_24.2.2.2) rfl (l' := ll4) rfl ?_
        refine XS.iloadN X5_.here hx rfl (hC e11_37.1) rfl ?_
        exact kK
      exact own_rr X5_ hx hlk hre rfl (Or.inl ⟨rfl, Or.inl rfl, _, rfl⟩) (hC e11_37.2.1) p5__0 (by decide) (by decide) ⟨by subst hup hlo; unfold own_mark; rw [if_pos hc15_3_, if_pos hc24_4_], N5_, rfl⟩
    · let ll5 : Array Slot := #[vR a, vI lo, vI up, vI up]
      refine jg T2_ mM 38 ll5 [(.int up)] (fun tT kK => ?_) ?_
      · refine XS.ifNo X2_.here hx rfl (hC e11_24.1) rfl ((if0 _ _).trans (flt (hc24_4_ : ¬ (up < (0 : Int32)))).1) ?_
        refine XS.iloadN X2_.here hx rfl (hC e11_37.2.2.1) rfl ?_
        refine XS.istoreN X2_.here hx rfl (hC e11_37.2.2.2) rfl (l' := ll5) rfl ?_
        refine XS.goto X2_.here hx rfl (pc0 := 29) (pc' := 37) rfl (hC e11_29.1) (by decide) (by decide) ?_
        refine XS.iloadN X2_.here hx rfl (hC e11_37.1) rfl ?_
        exact kK
      exact own_rr X2_ hx hlk hre rfl (Or.inl ⟨rfl, Or.inl rfl, _, rfl⟩) (hC e11_37.2.1) p2__0 (by decide) (by decide) ⟨by subst hup hlo; unfold own_mark; rw [if_pos hc15_3_, if_neg hc24_4_], N2_, rfl⟩
  · let ll6 : Array Slot := #[vR a, vI lo, vI up, vI lo]
    refine jg T2_ mM 38 ll6 [(.int lo)] (fun tT kK => ?_) ?_
    · refine XS.ifNo X2_.here hx rfl (hC e11_13.2.2.1) rfl ((if0 _ _).trans (flt (hc15_3_ : ¬ (lo < (0 : Int32)))).1) ?_
      refine XS.iloadN X2_.here hx rfl (hC e11_29.2.1) rfl ?_
      refine XS.istoreN X2_.here hx rfl (hC e11_29.2.2.1) rfl (l' := ll6) rfl ?_
      refine XS.goto X2_.here hx rfl (pc0 := 20) (pc' := 37) rfl (hC e11_29.2.2.2) (by decide) (by decide) ?_
      refine XS.iloadN X2_.here hx rfl (hC e11_37.1) rfl ?_
      exact kK
    exact own_rr X2_ hx hlk hre rfl (Or.inl ⟨rfl, Or.inl rfl, _, rfl⟩) (hC e11_37.2.1) p2__0 (by decide) (by decide) ⟨by subst hup hlo; unfold own_mark; rw [if_neg hc15_3_], N2_, rfl⟩
theorem e22_7 : jD21 7 (.iload 4, 2) ∧ jD21 9 (.aload_n 0, 1) ∧ jD21 10 (.invokevirtual 69, 3) ∧ jD21 13 (.if_icmp .ge 51, 3) := by decide +kernel
theorem e22_16 : jD21 16 (.aload_n 0, 1) ∧ jD21 17 (.iload 4, 2) ∧ jD21 19 (.invokevirtual 53, 3) := by decide +kernel
theorem own_pd14 : parseMethodDescriptor "(I)C" = some ⟨[.int], some .char⟩ := by decide +kernel
theorem d22_22 : jD21 22 (.istore 5, 2) := by decide +kernel
theorem own_os1 {z0 : Value} {z1 : Value} {z2 : Value} {z4 : Value} {s5 : Slot} {v : Int32} (h : One s5) : storeLocals #[.val z0, .val z1, .val z2, .second, .val z4, s5] 5 (.int v) = some #[.val z0, .val z1, .val z2, .second, .val z4, .val (.int v)] := by
  rcases h with rfl | ⟨w, rfl, hw⟩
  · first | rfl | (simp [Value.category, Value.isRef] at *; done)
  · cases w <;> first | rfl | (simp [Value.category, Value.isRef] at *; done)
theorem e22_24 : jD21 24 (.iload 5, 2) ∧ jD21 26 (.bipush 48, 2) ∧ jD21 28 (.if_icmp .lt 30, 3) ∧ jD21 58 (.iinc 4 1, 3) := by decide +kernel
theorem e22_61 : jD21 61 (.goto (-54), 3) ∧ jD21 31 (.iload 5, 2) ∧ jD21 33 (.bipush 57, 2) ∧ jD21 35 (.if_icmp .gt 23, 3) := by decide +kernel
theorem e22_38 : jD21 38 (.lload_n 2, 1) ∧ jD21 39 (.ldc2_w 44, 3) ∧ jD21 42 (.lmul, 1) ∧ jD21 43 (.iload 5, 2) := by decide +kernel
theorem e22_45 : jD21 45 (.i2l, 1) ∧ jD21 46 (.ladd, 1) ∧ jD21 47 (.ldc2_w 73, 3) ∧ jD21 50 (.lsub, 1) := by decide +kernel
theorem e22_51 : jD21 51 (.ldc2_w 75, 3) ∧ jD21 54 (.invokestatic 77, 3) := by decide +kernel
theorem own_pd15 : parseMethodDescriptor "(JJ)J" = some ⟨[.long, .long], some .long⟩ := by decide +kernel
theorem d22_57 : jD21 57 (.lstore_n 2, 1) := by decide +kernel
set_option maxRecDepth 65536 in
set_option maxHeartbeats 40000000 in
theorem own_lpe {pP : Program} {lL : Launch} {eE : Env} {sS : State} {mM : MethodId} {args : Array Value} {below : List Frame} {meth : Method} {cC : Code} {PP : State → Outcome → Prop} (Z : State) (a0 : Array Value) (hw : own_H a0 Z) (a : Addr) (m0 : Nat) (t : Addr) (z : Int32) (f : Int32 → Int32) (cs : Int32) (fv : Value) (r : Int64) (h0 : Heap) (n0 : Nat) (Z0 : n0 ≤ h0.size) (Oo : Old Z n0 h0) (Scs : Sta Z Z.heap "java/lang/String" "COMPACT_STRINGS" "Z" (.int cs)) (ncs : ¬ (cs = (0 : Int32))) (Sfv : Sta Z Z.heap "jdk/internal/util/Preconditions" "SIOOBE_FORMATTER" "Ljava/util/function/BiFunction;" fv) (rfv : fv.isRef = true) (Ea : jE0 Z h0 a) (Fv : jF1 Z h0 a (.ref t)) (Fc : jF0 Z h0 a (.int (0 : Int32))) (Tt : own_T Z h0 t .byte z f) (hx : pP.tables.exec = Jvm.exec) (hZ : Z.Warmed39 sS.vm) (hby : cC.code = prog_5_method_8_code) (hml : cC.maxLocals = 6) (hown : sS.vm.findClass "com/example/vestwright/vestwright/InputNumbers" = some mM.cls)
    (kont0 : ∀ (s5 : Slot) (Th : State) (hh : Heap) (Lh : List Loc), Stand pP lL eE jr12 sS mM args below meth cC Th Lh 0 0 → Th.heap = hh → Fr n0 Lh → Keep h0 hh ([] : List Addr) → (hh = h0) → own_Fin pP eE below PP (Th.setTop (mkF mM 64 #[.val (.ref a), .val (.int (Int32.ofNat m0)), .val (.long r), .second, .val (.int (Int32.ofNat z.toNatClampNeg)), s5] []))) :
    ∀ (k i : Nat) (m_ : Int64) (s5 : Slot) (Th : State) (hh : Heap) (Lh : List Loc), i + k = z.toNatClampNeg → Stand pP lL eE jr12 sS mM args below meth cC Th Lh 0 0 → Th.heap = hh → Fr n0 Lh → Keep h0 hh ([] : List Addr) → (hh = h0) → (own_mg f k i m_ = r) → (One s5) → own_Fin pP eE below PP (Th.setTop (mkF mM 7 #[.val (.ref a), .val (.int (Int32.ofNat m0)), .val (.long m_), .second, .val (.int (Int32.ofNat i)), s5] [])) := by
  have hC := @Jvm.hb _ _ hby
  intro k
  induction k with
  | zero =>
      intro i m_ s5 Th hh Lh hik Xh eh Nh Kh Ph Pm hs5
      rw [Ph] at eh Kh
      have hz := Tt.nn
      obtain rfl : i = z.toNatClampNeg := by omega
      let ll1 : Array Slot := #[vR a, vI (Int32.ofNat m0), vJ m_, vS, vI (Int32.ofNat z.toNatClampNeg), s5]
      refine jg Th mM 10 ll1 [(.ref a), (.int (Int32.ofNat z.toNatClampNeg))] (fun tT kK => ?_) ?_
      · refine XS.iload Xh.here hx rfl (hC e22_7.1) rfl ?_
        refine XS.aloadN Xh.here hx rfl (hC e22_7.2.1) rfl rfl ?_
        exact kK
      refine jv Xh hx hZ (y := jy1) hown (jk hw 104 rfl) (jk hw 78 rfl) (jk hw 80 rfl) (jk hw 79 rfl) (jk hw 81 rfl) (jk hw 26 rfl) (rm_slen lL Z a0 hw [] a t z f cs h0 n0 (Nat.le_trans Z0 Kh.1) Oo Scs ncs Ea Fv Fc Tt) Ea eh own_pd12 [] [(.int (Int32.ofNat z.toNatClampNeg))] (hC e22_7.2.2.1) rfl rfl (by rw [hml]; rfl) (by decide) 1 (Nat.le_of_eq rfl) (by decide) (by decide) (by decide : 0 + 0 ≤ _) (by decide : 0 + 0 ≤ _) fun vv1_ T1_ L1_ X1_ hQ1_ => ?_
      obtain ⟨rfl, N1_q, p1__0⟩ := hQ1_
      have N1_ := Fr.app Nh N1_q
      refine jg T1_ mM 64 ll1 [] (fun tT kK => ?_) ?_
      · refine XS.icmpYes X1_.here hx rfl (pc0 := 13) (pc' := 64) rfl (hC e22_7.2.2.2) rfl (flt (own_nlt hz : ¬ ((Int32.ofNat z.toNatClampNeg) < z))).2.1 (by decide) (by decide) ?_
        exact kK
      have Pr : m_ = r := Pm
      show own_Fin pP eE below _ (T1_.setTop (mkF mM 64 #[.val (.ref a), .val (.int (Int32.ofNat m0)), .val (.long m_), .second, .val (.int (Int32.ofNat z.toNatClampNeg)), s5] []))
      rw [Pr]
      exact kont0 _ _ _ _ X1_ p1__0 N1_ Kh rfl
  | succ k ih =>
      intro i m_ s5 Th hh Lh hik Xh eh Nh Kh Ph Pm hs5
      rw [Ph] at eh Kh
      have hz := Tt.nn
      have hi : i < z.toNatClampNeg := by omega
      let ll2 : Array Slot := #[vR a, vI (Int32.ofNat m0), vJ m_, vS, vI (Int32.ofNat i), s5]
      refine jg Th mM 10 ll2 [(.ref a), (.int (Int32.ofNat i))] (fun tT kK => ?_) ?_
      · refine XS.iload Xh.here hx rfl (hC e22_7.1) rfl ?_
        refine XS.aloadN Xh.here hx rfl (hC e22_7.2.1) rfl rfl ?_
        exact kK
      refine jv Xh hx hZ (y := jy1) hown (jk hw 104 rfl) (jk hw 78 rfl) (jk hw 80 rfl) (jk hw 79 rfl) (jk hw 81 rfl) (jk hw 26 rfl) (rm_slen lL Z a0 hw [] a t z f cs h0 n0 (Nat.le_trans Z0 Kh.1) Oo Scs ncs Ea Fv Fc Tt) Ea eh own_pd12 [] [(.int (Int32.ofNat i))] (hC e22_7.2.2.1) rfl rfl (by rw [hml]; rfl) (by decide) 1 (Nat.le_of_eq rfl) (by decide) (by decide) (by decide : 0 + 0 ≤ _) (by decide : 0 + 0 ≤ _) fun vv2_ T2_ L2_ X2_ hQ2_ => ?_
      obtain ⟨rfl, N2_q, p2__0⟩ := hQ2_
      have N2_ := Fr.app Nh N2_q
      refine jg T2_ mM 19 ll2 [(.int (Int32.ofNat i)), (.ref a)] (fun tT kK => ?_) ?_
      · refine XS.icmpNo X2_.here hx rfl (hC e22_7.2.2.2) rfl (tlt (own_ltz hz hi : (Int32.ofNat i) < z)).2.1 ?_
        refine XS.aloadN X2_.here hx rfl (hC e22_16.1) rfl rfl ?_
        refine XS.iload X2_.here hx rfl (hC e22_16.2.1) rfl ?_
        exact kK
      refine jv X2_ hx hZ (y := jy6) hown (jk hw 111 rfl) (jk hw 112 rfl) (jk hw 114 rfl) (jk hw 113 rfl) (jk hw 115 rfl) (jk hw 26 rfl) (rm_char lL Z a0 hw [] a (Int32.ofNat i) t z f cs fv h0 n0 (Nat.le_trans Z0 Kh.1) Oo Scs ncs Sfv rfv Ea Fv Fc Tt (own_nn hz hi) (own_ltz hz hi)) Ea p2__0 own_pd14 [(.int (Int32.ofNat i))] [] (hC e22_16.2.2) rfl rfl (by rw [hml]; rfl) (by decide) 0 (Nat.le_of_eq rfl) (by decide) (by decide) (by decide : 0 + 0 ≤ _) (by decide : 0 + 0 ≤ _) fun vv3_ T3_ L3_ X3_ hQ3_ => ?_
      obtain ⟨rfl, N3_q, p3__0⟩ := hQ3_
      have N3_ := Fr.app N2_ N3_q
      let ll3 : Array Slot := #[vR a, vI (Int32.ofNat m0), vJ m_, vS, vI (Int32.ofNat i), vI (own_ch (f (Int32.ofNat i)))]
      refine jg T3_ mM 28 ll3 [(.int (48 : Int32)), (.int (own_ch (f (Int32.ofNat i))))] (fun tT kK => ?_) ?_
      · refine XS.istore X3_.here hx rfl (hC d22_22) rfl (l' := ll3) (own_os1 hs5) ?_
        refine XS.iload X3_.here hx rfl (hC e22_24.1) rfl ?_
        refine XS.bipush X3_.here hx rfl (hC e22_24.2.1) ?_
        exact kK
      by_cases hc28_4_ : (own_ch (f (Int32.ofNat i))) < (48 : Int32)
      · let ll4 : Array Slot := #[vR a, vI (Int32.ofNat m0), vJ m_, vS, vI ((Int32.ofNat i) + (1 : Int32)), vI (own_ch (f (Int32.ofNat i)))]
        refine jg T3_ mM 7 ll4 [] (fun tT kK => ?_) ?_
        · refine XS.icmpYes X3_.here hx rfl (pc0 := 28) (pc' := 58) rfl (hC e22_24.2.2.1) rfl (tlt (hc28_4_ : (own_ch (f (Int32.ofNat i))) < (48 : Int32))).1 (by decide) (by decide) ?_
          refine XS.iinc X3_.here hx rfl (hC e22_24.2.2.2) rfl (l' := ll4) rfl ?_
          refine XS.goto X3_.here hx rfl (pc0 := 61) (pc' := 7) rfl (hC e22_61.1) (by decide) (by decide) ?_
          exact kK
        show own_Fin pP eE below _ (T3_.setTop (mkF mM 7 #[.val (.ref a), .val (.int (Int32.ofNat m0)), .val (.long m_), .second, .val (.int ((Int32.ofNat i) + (1 : Int32))), .val (.int (own_ch (f (Int32.ofNat i))))] []))
        rw [own_one i]
        exact ih (i + 1) _ _ _ _ _ (by omega) X3_ p3__0 N3_ Kh rfl (by rw [← Pm]; show _ = own_mg f k (i + 1) (own_dg _ _); unfold own_dg; rw [if_pos hc28_4_]) (One.val rfl)
      · refine jg T3_ mM 35 ll3 [(.int (57 : Int32)), (.int (own_ch (f (Int32.ofNat i))))] (fun tT kK => ?_) ?_
        · refine XS.icmpNo X3_.here hx rfl (hC e22_24.2.2.1) rfl (flt (hc28_4_ : ¬ ((own_ch (f (Int32.ofNat i))) < (48 : Int32)))).1 ?_
          refine XS.iload X3_.here hx rfl (hC e22_61.2.1) rfl ?_
          refine XS.bipush X3_.here hx rfl (hC e22_61.2.2.1) ?_
          exact kK
        by_cases hc35_5_ : (57 : Int32) < (own_ch (f (Int32.ofNat i)))
        · let ll5 : Array Slot := #[vR a, vI (Int32.ofNat m0), vJ m_, vS, vI ((Int32.ofNat i) + (1 : Int32)), vI (own_ch (f (Int32.ofNat i)))]
          refine jg T3_ mM 7 ll5 [] (fun tT kK => ?_) ?_
          · refine XS.icmpYes X3_.here hx rfl (pc0 := 35) (pc' := 58) rfl (hC e22_61.2.2.2) rfl (tlt (hc35_5_ : (57 : Int32) < (own_ch (f (Int32.ofNat i))))).2.2.1 (by decide) (by decide) ?_
            refine XS.iinc X3_.here hx rfl (hC e22_24.2.2.2) rfl (l' := ll5) rfl ?_
            refine XS.goto X3_.here hx rfl (pc0 := 61) (pc' := 7) rfl (hC e22_61.1) (by decide) (by decide) ?_
            exact kK
          show own_Fin pP eE below _ (T3_.setTop (mkF mM 7 #[.val (.ref a), .val (.int (Int32.ofNat m0)), .val (.long m_), .second, .val (.int ((Int32.ofNat i) + (1 : Int32))), .val (.int (own_ch (f (Int32.ofNat i))))] []))
          rw [own_one i]
          exact ih (i + 1) _ _ _ _ _ (by omega) X3_ p3__0 N3_ Kh rfl (by rw [← Pm]; show _ = own_mg f k (i + 1) (own_dg _ _); unfold own_dg; rw [if_neg hc28_4_, if_pos hc35_5_]) (One.val rfl)
        · refine jg T3_ mM 54 ll3 [(.long (10000000000 : Int64)), (.long (((m_ * (10 : Int64)) + ((own_ch (f (Int32.ofNat i))).toInt64)) - (48 : Int64)))] (fun tT kK => ?_) ?_
          · refine XS.icmpNo X3_.here hx rfl (hC e22_61.2.2.2) rfl (flt (hc35_5_ : ¬ ((57 : Int32) < (own_ch (f (Int32.ofNat i)))))).2.2.1 ?_
            refine XS.lloadN X3_.here hx rfl (hC e22_38.1) rfl ?_
            refine X3_.ldc2Long hx hown (jm hZ hw 127 rfl) (g := (mkF mM 39 ll3 [(.long m_)])) rfl (hC e22_38.2.1) _ ?_
            refine XS.lmul X3_.here hx rfl (hC e22_38.2.2.1) rfl ?_
            refine XS.iload X3_.here hx rfl (hC e22_38.2.2.2) rfl ?_
            refine XS.i2l X3_.here hx rfl (hC e22_45.1) rfl ?_
            refine XS.ladd X3_.here hx rfl (hC e22_45.2.1) rfl ?_
            refine X3_.ldc2Long hx hown (jm hZ hw 128 rfl) (g := (mkF mM 47 ll3 [(.long ((m_ * (10 : Int64)) + ((own_ch (f (Int32.ofNat i))).toInt64)))])) rfl (hC e22_45.2.2.1) _ ?_
            refine XS.lsub X3_.here hx rfl (hC e22_45.2.2.2) rfl ?_
            refine X3_.ldc2Long hx hown (jm hZ hw 129 rfl) (g := (mkF mM 51 ll3 [(.long (((m_ * (10 : Int64)) + ((own_ch (f (Int32.ofNat i))).toInt64)) - (48 : Int64)))])) rfl (hC e22_51.1) _ ?_
            exact kK
          refine jc X3_ hx hZ (y := jy19) hown (jk hw 130 rfl) (jk hw 131 rfl) (jk hw 96 rfl) (jk hw 132 rfl) (rm_minj lL Z a0 hw [] (((m_ * (10 : Int64)) + ((own_ch (f (Int32.ofNat i))).toInt64)) - (48 : Int64)) (10000000000 : Int64) h0 n0 (Nat.le_trans Z0 Kh.1) ) p3__0 own_pd15 [(.long (((m_ * (10 : Int64)) + ((own_ch (f (Int32.ofNat i))).toInt64)) - (48 : Int64))), (.long (10000000000 : Int64))] [] (hC e22_51.2) rfl rfl (by rw [hml]; rfl) (by decide) 0 (Nat.le_of_eq rfl) (by decide) (by decide) (by decide : 0 + 0 ≤ _) (by decide : 0 + 0 ≤ _) fun vv6_ T6_ L6_ X6_ hQ6_ => ?_
          obtain ⟨rfl, N6_q, p6__0⟩ := hQ6_
          have N6_ := Fr.app N3_ N6_q
          let ll6 : Array Slot := #[vR a, vI (Int32.ofNat m0), vJ (if (10000000000 : Int64) < (((m_ * (10 : Int64)) + ((own_ch (f (Int32.ofNat i))).toInt64)) - (48 : Int64)) then (10000000000 : Int64) else (((m_ * (10 : Int64)) + ((own_ch (f (Int32.ofNat i))).toInt64)) - (48 : Int64))), vS, vI ((Int32.ofNat i) + (1 : Int32)), vI (own_ch (f (Int32.ofNat i)))]
          refine jg T6_ mM 7 ll6 [] (fun tT kK => ?_) ?_
          · let ll7 : Array Slot := #[vR a, vI (Int32.ofNat m0), vJ (if (10000000000 : Int64) < (((m_ * (10 : Int64)) + ((own_ch (f (Int32.ofNat i))).toInt64)) - (48 : Int64)) then (10000000000 : Int64) else (((m_ * (10 : Int64)) + ((own_ch (f (Int32.ofNat i))).toInt64)) - (48 : Int64))), vS, vI (Int32.ofNat i), vI (own_ch (f (Int32.ofNat i)))]
            refine XS.lstoreN X6_.here hx rfl (hC d22_57) rfl (l' := ll7) rfl ?_
            refine XS.iinc X6_.here hx rfl (hC e22_24.2.2.2) rfl (l' := ll6) rfl ?_
            refine XS.goto X6_.here hx rfl (pc0 := 61) (pc' := 7) rfl (hC e22_61.1) (by decide) (by decide) ?_
            exact kK
          show own_Fin pP eE below _ (T6_.setTop (mkF mM 7 #[.val (.ref a), .val (.int (Int32.ofNat m0)), .val (.long (if (10000000000 : Int64) < (((m_ * (10 : Int64)) + ((own_ch (f (Int32.ofNat i))).toInt64)) - (48 : Int64)) then (10000000000 : Int64) else (((m_ * (10 : Int64)) + ((own_ch (f (Int32.ofNat i))).toInt64)) - (48 : Int64)))), .second, .val (.int ((Int32.ofNat i) + (1 : Int32))), .val (.int (own_ch (f (Int32.ofNat i))))] []))
          rw [own_one i]
          exact ih (i + 1) _ _ _ _ _ (by omega) X6_ p6__0 N6_ Kh rfl (by rw [← Pm]; show _ = own_mg f k (i + 1) (own_dg _ _); unfold own_dg; rw [if_neg hc28_4_, if_neg hc35_5_]) (One.val rfl)
theorem e22_0 : jD21 0 (.lconst 0, 1) ∧ jD21 1 (.lstore_n 2, 1) ∧ jD21 2 (.iload_n 1, 1) ∧ jD21 3 (.iconst 1, 1) := by decide +kernel
theorem e22_4 : jD21 4 (.iadd, 1) ∧ jD21 5 (.istore 4, 2) ∧ jD21 64 (.iload_n 1, 1) ∧ jD21 65 (.iconst 1, 1) := by decide +kernel
theorem e22_66 : jD21 66 (.iadd, 1) ∧ jD21 67 (.aload_n 0, 1) ∧ jD21 68 (.invokevirtual 69, 3) ∧ jD21 71 (.if_icmp .ge 20, 3) := by decide +kernel
theorem e22_74 : jD21 74 (.aload_n 0, 1) ∧ jD21 75 (.iload_n 1, 1) ∧ jD21 76 (.iconst 1, 1) ∧ jD21 77 (.iadd, 1) := by decide +kernel
theorem e22_78 : jD21 78 (.invokevirtual 53, 3) ∧ jD21 81 (.bipush 45, 2) ∧ jD21 83 (.if_icmp .ne 8, 3) ∧ jD21 86 (.lload_n 2, 1) := by decide +kernel
theorem e22_87 : jD21 87 (.lneg, 1) ∧ jD21 88 (.goto 4, 3) ∧ jD21 92 (.lreturn, 1) ∧ jD21 91 (.lload_n 2, 1) := by decide +kernel
theorem own_ef_rm_exp (mM : MethodId) (x0 : Addr) (x1 : Int32) : entryFrame mM #[(.ref x0), (.int x1)] 6 = mkF mM 0 #[.val (.ref x0), .val (.int x1), .unset, .unset, .unset, .unset] [] := by first | (simp [entryFrame, mkF, argsToLocals, Value.category]; done) | rfl
def Q_rm_exp (Z : State) (a : Addr) (m0 : Nat) (t : Addr) (z : Int32) (f : Int32 → Int32) (cs : Int32) (fv : Value) (h0 : Heap) (n0 : Nat) (vV : Option Value) (hH : Heap) (lA : List Loc) : Prop := vV = some (.long (if (own_ch (f ((Int32.ofNat m0) + (1 : Int32)))) = (45 : Int32) then (-(own_mg f (z.toNatClampNeg - (m0 + 1)) (m0 + 1) (0 : Int64))) else (own_mg f (z.toNatClampNeg - (m0 + 1)) (m0 + 1) (0 : Int64)))) ∧ Fr n0 lA ∧ (hH = h0)
set_option maxRecDepth 65536 in
set_option maxHeartbeats 40000000 in
theorem rm_exp (lL : Launch) (Z : State) (a0 : Array Value) (hw : own_H a0 Z) (ws : List Jvm.Cond) (a : Addr) (m0 : Nat) (t : Addr) (z : Int32) (f : Int32 → Int32) (cs : Int32) (fv : Value) (h0 : Heap) (n0 : Nat) (Z0 : n0 ≤ h0.size) (Oo : Old Z n0 h0) (Scs : Sta Z Z.heap "java/lang/String" "COMPACT_STRINGS" "Z" (.int cs)) (ncs : ¬ (cs = (0 : Int32))) (Sfv : Sta Z Z.heap "jdk/internal/util/Preconditions" "SIOOBE_FORMATTER" "Ljava/util/function/BiFunction;" fv) (rfv : fv.isRef = true) (Ea : jE0 Z h0 a) (Fv : jF1 Z h0 a (.ref t)) (Fc : jF0 Z h0 a (.int (0 : Int32))) (Tt : own_T Z h0 t .byte z f) (hm : m0 + 1 < z.toNatClampNeg) :
    own_Met lL jy21 (Jvm.Cond.code jy21 prog_5_method_8_code 6 (some .long) :: ws) jr12 #[(.ref a), (.int (Int32.ofNat m0))] Z h0 (Q_rm_exp Z a m0 t z f cs fv h0 n0) := by
  refine own_begin (plainFor_of_name own_pn_com_example_vestwright_vestwright_InputNumbers) (fun mM => own_ef_rm_exp mM a (Int32.ofNat m0)) fun pP eE sS mM below meth cC s₁ hx hby hml hZ hown hnm hre hlk X0 e0 => ?_
  have hC := @Jvm.hb _ _ hby
  have N0 := Fr.nil n0
  have K0 := Keep.refl h0 ([] : List Addr)
  have hz := Tt.nn
  let ll1 : Array Slot := #[vR a, vI (Int32.ofNat m0), vJ 0, vS, vI ((Int32.ofNat m0) + (1 : Int32)), vU]
  refine jg s₁ mM 7 ll1 [] (fun tT kK => ?_) ?_
  · refine XS.lconst X0.here hx rfl (hC e22_0.1) ?_
    let ll2 : Array Slot := #[vR a, vI (Int32.ofNat m0), vJ 0, vS, vU, vU]
    refine XS.lstoreN X0.here hx rfl (hC e22_0.2.1) rfl (l' := ll2) rfl ?_
    refine XS.iloadN X0.here hx rfl (hC e22_0.2.2.1) rfl ?_
    refine XS.iconst X0.here hx rfl (hC e22_0.2.2.2) ?_
    refine XS.iadd X0.here hx rfl (hC e22_4.1) rfl ?_
    refine XS.istore X0.here hx rfl (hC e22_4.2.1) rfl (l' := ll1) rfl ?_
    exact kK
  show own_Fin pP eE below _ (s₁.setTop (mkF mM 7 #[.val (.ref a), .val (.int (Int32.ofNat m0)), .val (.long (0 : Int64)), .second, .val (.int ((Int32.ofNat m0) + (1 : Int32))), .unset] []))
  rw [own_one m0]
  refine own_lpe Z a0 hw a m0 t z f cs fv (own_mg f (z.toNatClampNeg - (m0 + 1)) (m0 + 1) (0 : Int64)) h0 n0 Z0 Oo Scs ncs Sfv rfv Ea Fv Fc Tt hx hZ hby hml hown ?_ (z.toNatClampNeg - (m0 + 1)) (m0 + 1) (0 : Int64) _ _ _ _ (by omega) X0 e0 N0 K0 rfl rfl One.u
  intro s5_1_ T1_ h1_ L1_ X1_ e1_ N1_ K1_ p1__0
  let ll3 : Array Slot := #[vR a, vI (Int32.ofNat m0), vJ (own_mg f (z.toNatClampNeg - (m0 + 1)) (m0 + 1) (0 : Int64)), vS, vI (Int32.ofNat z.toNatClampNeg), s5_1_]
  refine jg T1_ mM 68 ll3 [(.ref a), (.int ((Int32.ofNat m0) + (1 : Int32)))] (fun tT kK => ?_) ?_
  · refine XS.iloadN X1_.here hx rfl (hC e22_4.2.2.1) rfl ?_
    refine XS.iconst X1_.here hx rfl (hC e22_4.2.2.2) ?_
    refine XS.iadd X1_.here hx rfl (hC e22_66.1) rfl ?_
    refine XS.aloadN X1_.here hx rfl (hC e22_66.2.1) rfl rfl ?_
    exact kK
  refine jv X1_ hx hZ (y := jy1) hown (jk hw 104 rfl) (jk hw 78 rfl) (jk hw 80 rfl) (jk hw 79 rfl) (jk hw 81 rfl) (jk hw 26 rfl) (rm_slen lL Z a0 hw [] a t z f cs h0 n0 (Nat.le_trans Z0 K0.1) Oo Scs ncs Ea Fv Fc Tt) Ea (e1_.trans p1__0) own_pd12 [] [(.int ((Int32.ofNat m0) + (1 : Int32)))] (hC e22_66.2.2.1) rfl rfl (by rw [hml]; rfl) (by decide) 1 (Nat.le_of_eq rfl) (by decide) (by decide) (by decide : 0 + 0 ≤ _) (by decide : 0 + 0 ≤ _) fun vv2_ T2_ L2_ X2_ hQ2_ => ?_
  obtain ⟨rfl, N2_q, p2__0⟩ := hQ2_
  have N2_ := Fr.app N1_ N2_q
  refine jg T2_ mM 78 ll3 [(.int ((Int32.ofNat m0) + (1 : Int32))), (.ref a)] (fun tT kK => ?_) ?_
  · refine XS.icmpNo X2_.here hx rfl (hC e22_66.2.2.2) rfl (tlt ((by rw [own_one]; exact own_ltz hz hm) : ((Int32.ofNat m0) + (1 : Int32)) < z)).2.1 ?_
    refine XS.aloadN X2_.here hx rfl (hC e22_74.1) rfl rfl ?_
    refine XS.iloadN X2_.here hx rfl (hC e22_74.2.1) rfl ?_
    refine XS.iconst X2_.here hx rfl (hC e22_74.2.2.1) ?_
    refine XS.iadd X2_.here hx rfl (hC e22_74.2.2.2) rfl ?_
    exact kK
  refine jv X2_ hx hZ (y := jy6) hown (jk hw 111 rfl) (jk hw 112 rfl) (jk hw 114 rfl) (jk hw 113 rfl) (jk hw 115 rfl) (jk hw 26 rfl) (rm_char lL Z a0 hw [] a ((Int32.ofNat m0) + (1 : Int32)) t z f cs fv h0 n0 (Nat.le_trans Z0 K0.1) Oo Scs ncs Sfv rfv Ea Fv Fc Tt (by rw [own_one]; exact own_nn hz hm) (by rw [own_one]; exact own_ltz hz hm)) Ea p2__0 own_pd14 [(.int ((Int32.ofNat m0) + (1 : Int32)))] [] (hC e22_78.1) rfl rfl (by rw [hml]; rfl) (by decide) 0 (Nat.le_of_eq rfl) (by decide) (by decide) (by decide : 0 + 0 ≤ _) (by decide : 0 + 0 ≤ _) fun vv3_ T3_ L3_ X3_ hQ3_ => ?_
  obtain ⟨rfl, N3_q, p3__0⟩ := hQ3_
  have N3_ := Fr.app N2_ N3_q
  refine jg T3_ mM 83 ll3 [(.int (45 : Int32)), (.int (own_ch (f ((Int32.ofNat m0) + (1 : Int32)))))] (fun tT kK => ?_) ?_
  · refine XS.bipush X3_.here hx rfl (hC e22_78.2.1) ?_
    exact kK
  by_cases hc83_4_ : (own_ch (f ((Int32.ofNat m0) + (1 : Int32)))) = (45 : Int32)
  · refine jg T3_ mM 92 ll3 [(.long (-(own_mg f (z.toNatClampNeg - (m0 + 1)) (m0 + 1) (0 : Int64))))] (fun tT kK => ?_) ?_
    · refine XS.icmpNo X3_.here hx rfl (hC e22_78.2.2.1) rfl (teq (hc83_4_ : (own_ch (f ((Int32.ofNat m0) + (1 : Int32)))) = (45 : Int32))).2 ?_
      refine XS.lloadN X3_.here hx rfl (hC e22_78.2.2.2) rfl ?_
      refine XS.lneg X3_.here hx rfl (hC e22_87.1) rfl ?_
      refine XS.goto X3_.here hx rfl (pc0 := 88) (pc' := 92) rfl (hC e22_87.2.1) (by decide) (by decide) ?_
      exact kK
    exact own_rr X3_ hx hlk hre rfl (Or.inr (Or.inl ⟨rfl, rfl, _, rfl⟩)) (hC e22_87.2.2.1) p3__0 (by decide) (by decide) ⟨by rw [if_pos hc83_4_], N3_, rfl⟩
  · refine jg T3_ mM 92 ll3 [(.long (own_mg f (z.toNatClampNeg - (m0 + 1)) (m0 + 1) (0 : Int64)))] (fun tT kK => ?_) ?_
    · refine XS.icmpYes X3_.here hx rfl (pc0 := 83) (pc' := 91) rfl (hC e22_78.2.2.1) rfl (feq (hc83_4_ : ¬ ((own_ch (f ((Int32.ofNat m0) + (1 : Int32)))) = (45 : Int32)))).2 (by decide) (by decide) ?_
      refine XS.lloadN X3_.here hx rfl (hC e22_87.2.2.2) rfl ?_
      exact kK
    exact own_rr X3_ hx hlk hre rfl (Or.inr (Or.inl ⟨rfl, rfl, _, rfl⟩)) (hC e22_87.2.2.1) p3__0 (by decide) (by decide) ⟨by rw [if_neg hc83_4_], N3_, rfl⟩
theorem own_ef_rm_exp0 (mM : MethodId) (x0 : Addr) (x1 : Int32) : entryFrame mM #[(.ref x0), (.int x1)] 6 = mkF mM 0 #[.val (.ref x0), .val (.int x1), .unset, .unset, .unset, .unset] [] := by first | (simp [entryFrame, mkF, argsToLocals, Value.category]; done) | rfl
def Q_rm_exp0 (Z : State) (a : Addr) (t : Addr) (z : Int32) (f : Int32 → Int32) (cs : Int32) (fv : Value) (h0 : Heap) (n0 : Nat) (vV : Option Value) (hH : Heap) (lA : List Loc) : Prop := vV = some (.long (0 : Int64)) ∧ Fr n0 lA ∧ (hH = h0)
set_option maxRecDepth 65536 in
set_option maxHeartbeats 40000000 in
theorem rm_exp0 (lL : Launch) (Z : State) (a0 : Array Value) (hw : own_H a0 Z) (ws : List Jvm.Cond) (a : Addr) (t : Addr) (z : Int32) (f : Int32 → Int32) (cs : Int32) (fv : Value) (h0 : Heap) (n0 : Nat) (Z0 : n0 ≤ h0.size) (Oo : Old Z n0 h0) (Scs : Sta Z Z.heap "java/lang/String" "COMPACT_STRINGS" "Z" (.int cs)) (ncs : ¬ (cs = (0 : Int32))) (Sfv : Sta Z Z.heap "jdk/internal/util/Preconditions" "SIOOBE_FORMATTER" "Ljava/util/function/BiFunction;" fv) (rfv : fv.isRef = true) (Ea : jE0 Z h0 a) (Fv : jF1 Z h0 a (.ref t)) (Fc : jF0 Z h0 a (.int (0 : Int32))) (Tt : own_T Z h0 t .byte z f) (hs : ¬ ((z + (1 : Int32)) < z)) :
    own_Met lL jy21 (Jvm.Cond.code jy21 prog_5_method_8_code 6 (some .long) :: ws) jr13 #[(.ref a), (.int z)] Z h0 (Q_rm_exp0 Z a t z f cs fv h0 n0) := by
  refine own_begin (plainFor_of_name own_pn_com_example_vestwright_vestwright_InputNumbers) (fun mM => own_ef_rm_exp0 mM a z) fun pP eE sS mM below meth cC s₁ hx hby hml hZ hown hnm hre hlk X0 e0 => ?_
  have hC := @Jvm.hb _ _ hby
  have N0 := Fr.nil n0
  have K0 := Keep.refl h0 ([] : List Addr)
  let ll1 : Array Slot := #[vR a, vI z, vJ 0, vS, vI (z + (1 : Int32)), vU]
  refine jg s₁ mM 10 ll1 [(.ref a), (.int (z + (1 : Int32)))] (fun tT kK => ?_) ?_
  · refine XS.lconst X0.here hx rfl (hC e22_0.1) ?_
    let ll2 : Array Slot := #[vR a, vI z, vJ 0, vS, vU, vU]
    refine XS.lstoreN X0.here hx rfl (hC e22_0.2.1) rfl (l' := ll2) rfl ?_
    refine XS.iloadN X0.here hx rfl (hC e22_0.2.2.1) rfl ?_
    refine XS.iconst X0.here hx rfl (hC e22_0.2.2.2) ?_
    refine XS.iadd X0.here hx rfl (hC e22_4.1) rfl ?_
    refine XS.istore X0.here hx rfl (hC e22_4.2.1) rfl (l' := ll1) rfl ?_
    refine XS.iload X0.here hx rfl (hC e22_7.1) rfl ?_
    refine XS.aloadN X0.here hx rfl (hC e22_7.2.1) rfl rfl ?_
    exact kK
  refine jv X0 hx hZ (y := jy1) hown (jk hw 104 rfl) (jk hw 78 rfl) (jk hw 80 rfl) (jk hw 79 rfl) (jk hw 81 rfl) (jk hw 26 rfl) (rm_slen lL Z a0 hw [] a t z f cs h0 n0 (Nat.le_trans Z0 K0.1) Oo Scs ncs Ea Fv Fc Tt) Ea e0 own_pd12 [] [(.int (z + (1 : Int32)))] (hC e22_7.2.2.1) rfl rfl (by rw [hml]; rfl) (by decide) 1 (Nat.le_of_eq rfl) (by decide) (by decide) (by decide : 0 + 0 ≤ _) (by decide : 0 + 0 ≤ _) fun vv1_ T1_ L1_ X1_ hQ1_ => ?_
  obtain ⟨rfl, N1_q, p1__0⟩ := hQ1_
  have N1_ := Fr.app N0 N1_q
  refine jg T1_ mM 68 ll1 [(.ref a), (.int (z + (1 : Int32)))] (fun tT kK => ?_) ?_
  · refine XS.icmpYes X1_.here hx rfl (pc0 := 13) (pc' := 64) rfl (hC e22_7.2.2.2) rfl (flt (hs : ¬ ((z + (1 : Int32)) < z))).2.1 (by decide) (by decide) ?_
    refine XS.iloadN X1_.here hx rfl (hC e22_4.2.2.1) rfl ?_
    refine XS.iconst X1_.here hx rfl (hC e22_4.2.2.2) ?_
    refine XS.iadd X1_.here hx rfl (hC e22_66.1) rfl ?_
    refine XS.aloadN X1_.here hx rfl (hC e22_66.2.1) rfl rfl ?_
    exact kK
  refine jv X1_ hx hZ (y := jy1) hown (jk hw 104 rfl) (jk hw 78 rfl) (jk hw 80 rfl) (jk hw 79 rfl) (jk hw 81 rfl) (jk hw 26 rfl) (rm_slen lL Z a0 hw [] a t z f cs h0 n0 (Nat.le_trans Z0 K0.1) Oo Scs ncs Ea Fv Fc Tt) Ea p1__0 own_pd12 [] [(.int (z + (1 : Int32)))] (hC e22_66.2.2.1) rfl rfl (by rw [hml]; rfl) (by decide) 1 (Nat.le_of_eq rfl) (by decide) (by decide) (by decide : 0 + 0 ≤ _) (by decide : 0 + 0 ≤ _) fun vv2_ T2_ L2_ X2_ hQ2_ => ?_
  obtain ⟨rfl, N2_q, p2__0⟩ := hQ2_
  have N2_ := Fr.app N1_ N2_q
  refine jg T2_ mM 92 ll1 [(.long (0 : Int64))] (fun tT kK => ?_) ?_
  · refine XS.icmpYes X2_.here hx rfl (pc0 := 71) (pc' := 91) rfl (hC e22_66.2.2.2) rfl (flt (hs : ¬ ((z + (1 : Int32)) < z))).2.1 (by decide) (by decide) ?_
    refine XS.lloadN X2_.here hx rfl (hC e22_87.2.2.2) rfl ?_
    exact kK
  exact own_rr X2_ hx hlk hre rfl (Or.inr (Or.inl ⟨rfl, rfl, _, rfl⟩)) (hC e22_87.2.2.1) p2__0 (by decide) (by decide) ⟨rfl, N2_, rfl⟩
theorem e23_0 : jD22 0 (.aload_n 0, 1) ∧ jD22 1 (.bipush 46, 2) ∧ jD22 3 (.invokevirtual 65, 3) ∧ jD22 6 (.istore_n 2, 1) := by decide +kernel
theorem e23_7 : jD22 7 (.iload_n 2, 1) ∧ jD22 8 (.ifCond .ge 7, 3) ∧ jD22 11 (.iconst 0, 1) ∧ jD22 12 (.goto 8, 3) := by decide +kernel
theorem e23_15 : jD22 15 (.iload_n 1, 1) ∧ jD22 16 (.iload_n 2, 1) ∧ jD22 17 (.isub, 1) ∧ jD22 18 (.iconst 1, 1) := by decide +kernel
theorem e23_19 : jD22 19 (.isub, 1) ∧ jD22 20 (.i2l, 1) ∧ jD22 21 (.aload_n 0, 1) ∧ jD22 22 (.iload_n 1, 1) := by decide +kernel
theorem d23_23 : jD22 23 (.invokestatic 30, 3) := by decide +kernel
theorem own_pd16 : parseMethodDescriptor "(Ljava/lang/String;I)J" = some ⟨[(.object "java/lang/String"), .int], some .long⟩ := by decide +kernel
theorem e23_26 : jD22 26 (.lsub, 1) ∧ jD22 27 (.lreturn, 1) := by decide +kernel
theorem own_ef_rm_dec1 (mM : MethodId) (x0 : Addr) (x1 : Int32) : entryFrame mM #[(.ref x0), (.int x1)] 3 = mkF mM 0 #[.val (.ref x0), .val (.int x1), .unset] [] := by first | (simp [entryFrame, mkF, argsToLocals, Value.category]; done) | rfl
def Q_rm_dec1 (Z : State) (a : Addr) (m0 : Nat) (t : Addr) (z : Int32) (f : Int32 → Int32) (cs : Int32) (fv : Value) (h0 : Heap) (n0 : Nat) (vV : Option Value) (hH : Heap) (lA : List Loc) : Prop := vV = some (.long ((if (own_fd f ((46 : Int32).toInt8.toInt32) z.toNatClampNeg 0) < (0 : Int32) then (0 : Int32) else (((Int32.ofNat m0) - (own_fd f ((46 : Int32).toInt8.toInt32) z.toNatClampNeg 0)) - (1 : Int32))).toInt64 - (if (own_ch (f ((Int32.ofNat m0) + (1 : Int32)))) = (45 : Int32) then (-(own_mg f (z.toNatClampNeg - (m0 + 1)) (m0 + 1) (0 : Int64))) else (own_mg f (z.toNatClampNeg - (m0 + 1)) (m0 + 1) (0 : Int64))))) ∧ Fr n0 lA ∧ (hH = h0)
set_option maxRecDepth 65536 in
set_option maxHeartbeats 40000000 in
theorem rm_dec1 (lL : Launch) (Z : State) (a0 : Array Value) (hw : own_H a0 Z) (ws : List Jvm.Cond) (a : Addr) (m0 : Nat) (t : Addr) (z : Int32) (f : Int32 → Int32) (cs : Int32) (fv : Value) (h0 : Heap) (n0 : Nat) (Z0 : n0 ≤ h0.size) (Oo : Old Z n0 h0) (Scs : Sta Z Z.heap "java/lang/String" "COMPACT_STRINGS" "Z" (.int cs)) (ncs : ¬ (cs = (0 : Int32))) (Sfv : Sta Z Z.heap "jdk/internal/util/Preconditions" "SIOOBE_FORMATTER" "Ljava/util/function/BiFunction;" fv) (rfv : fv.isRef = true) (Ea : jE0 Z h0 a) (Fv : jF1 Z h0 a (.ref t)) (Fc : jF0 Z h0 a (.int (0 : Int32))) (Tt : own_T Z h0 t .byte z f) (hnz : ¬ (z = (0 : Int32))) (hm : m0 + 1 < z.toNatClampNeg) :
    own_Met lL jy22 (Jvm.Cond.code jy22 prog_5_method_7_code 3 (some .long) :: ws) jr14 #[(.ref a), (.int (Int32.ofNat m0))] Z h0 (Q_rm_dec1 Z a m0 t z f cs fv h0 n0) := by
  refine own_begin (plainFor_of_name own_pn_com_example_vestwright_vestwright_InputNumbers) (fun mM => own_ef_rm_dec1 mM a (Int32.ofNat m0)) fun pP eE sS mM below meth cC s₁ hx hby hml hZ hown hnm hre hlk X0 e0 => ?_
  have hC := @Jvm.hb _ _ hby
  have N0 := Fr.nil n0
  have K0 := Keep.refl h0 ([] : List Addr)
  let ll1 : Array Slot := #[vR a, vI (Int32.ofNat m0), vU]
  refine jg s₁ mM 3 ll1 [(.int (46 : Int32)), (.ref a)] (fun tT kK => ?_) ?_
  · refine XS.aloadN X0.here hx rfl (hC e23_0.1) rfl rfl ?_
    refine XS.bipush X0.here hx rfl (hC e23_0.2.1) ?_
    exact kK
  refine jv X0 hx hZ (y := jy18) hown (jk hw 62 rfl) (jk hw 63 rfl) (jk hw 65 rfl) (jk hw 64 rfl) (jk hw 66 rfl) (jk hw 26 rfl) (rm_ix lL Z a0 hw [] a (46 : Int32) t z f cs h0 n0 (Nat.le_trans Z0 K0.1) Oo Scs ncs Ea Fv Fc Tt (by decide) (by decide) hnz) Ea e0 own_pd13 [(.int (46 : Int32))] [] (hC e23_0.2.2.1) rfl rfl (by rw [hml]; rfl) (by decide) 0 (Nat.le_of_eq rfl) (by decide) (by decide) (by decide : 0 + 0 ≤ _) (by decide : 0 + 0 ≤ _) fun vv1_ T1_ L1_ X1_ hQ1_ => ?_
  obtain ⟨rfl, N1_q, p1__0⟩ := hQ1_
  have N1_ := Fr.app N0 N1_q
  let ll2 : Array Slot := #[vR a, vI (Int32.ofNat m0), vI (own_fd f ((46 : Int32).toInt8.toInt32) z.toNatClampNeg 0)]
  refine jg T1_ mM 7 ll2 [] (fun tT kK => ?_) ?_
  · refine XS.istoreN X1_.here hx rfl (hC e23_0.2.2.2) rfl (l' := ll2) rfl ?_
    exact kK
  show own_Fin pP eE below _ (T1_.setTop (mkF mM 7 #[.val (.ref a), .val (.int (Int32.ofNat m0)), .val (.int (own_fd f ((46 : Int32).toInt8.toInt32) z.toNatClampNeg 0))] []))
  generalize hpt : (own_fd f ((46 : Int32).toInt8.toInt32) z.toNatClampNeg 0) = pt
  let ll3 : Array Slot := #[vR a, vI (Int32.ofNat m0), vI pt]
  refine jg T1_ mM 8 ll3 [(.int pt)] (fun tT kK => ?_) ?_
  · refine XS.iloadN X1_.here hx rfl (hC e23_7.1) rfl ?_
    exact kK
  obtain ⟨dp, hdp, st2_⟩ : ∃ dp : Int32, (dp = (if pt < (0 : Int32) then (0 : Int32) else (((Int32.ofNat m0) - pt) - (1 : Int32)))) ∧ ∀ tT, Steps pP.tables eE below (T1_.setTop (mkF mM 20 #[.val (.ref a), .val (.int (Int32.ofNat m0)), .val (.int pt)] [(.int dp)])) tT → Steps pP.tables eE below (T1_.setTop (mkF mM 8 #[.val (.ref a), .val (.int (Int32.ofNat m0)), .val (.int pt)] [(.int pt)])) tT := by
    by_cases hm1 : pt < (0 : Int32)
    · refine ⟨(0 : Int32), by rw [if_pos hm1], fun tT kK => ?_⟩
      refine XS.ifNo X1_.here hx rfl (hC e23_7.2.1) rfl ((if0 _ _).trans (tlt (hm1 : pt < (0 : Int32))).2.1) ?_
      refine XS.iconst X1_.here hx rfl (hC e23_7.2.2.1) ?_
      refine XS.goto X1_.here hx rfl (pc0 := 12) (pc' := 20) rfl (hC e23_7.2.2.2) (by decide) (by decide) ?_
      exact kK
    · refine ⟨(((Int32.ofNat m0) - pt) - (1 : Int32)), by rw [if_neg hm1], fun tT kK => ?_⟩
      refine XS.ifYes X1_.here hx rfl (pc0 := 8) (pc' := 15) rfl (hC e23_7.2.1) rfl ((if0 _ _).trans (flt (hm1 : ¬ (pt < (0 : Int32)))).2.1) (by decide) (by decide) ?_
      refine XS.iloadN X1_.here hx rfl (hC e23_15.1) rfl ?_
      refine XS.iloadN X1_.here hx rfl (hC e23_15.2.1) rfl ?_
      refine XS.isub X1_.here hx rfl (hC e23_15.2.2.1) rfl ?_
      refine XS.iconst X1_.here hx rfl (hC e23_15.2.2.2) ?_
      refine XS.isub X1_.here hx rfl (hC e23_19.1) rfl ?_
      exact kK
  refine own_fin st2_ ?_
  refine jg T1_ mM 23 ll3 [(.int (Int32.ofNat m0)), (.ref a), (.long (dp.toInt64))] (fun tT kK => ?_) ?_
  · refine XS.i2l X1_.here hx rfl (hC e23_19.2.1) rfl ?_
    refine XS.aloadN X1_.here hx rfl (hC e23_19.2.2.1) rfl rfl ?_
    refine XS.iloadN X1_.here hx rfl (hC e23_19.2.2.2) rfl ?_
    exact kK
  refine jc X1_ hx hZ (y := jy21) hown (jk hw 105 rfl) (jk hw 106 rfl) (jk hw 57 rfl) (jk hw 107 rfl) (rm_exp lL Z a0 hw [] a m0 t z f cs fv h0 n0 (Nat.le_trans Z0 K0.1) Oo Scs ncs Sfv rfv Ea Fv Fc Tt hm) p1__0 own_pd16 [(.ref a), (.int (Int32.ofNat m0))] [(.long (dp.toInt64))] (hC d23_23) rfl rfl (by rw [hml]; rfl) (by decide) 2 (Nat.le_of_eq rfl) (by decide) (by decide) (by decide : 0 + 0 ≤ _) (by decide : 0 + 0 ≤ _) fun vv3_ T3_ L3_ X3_ hQ3_ => ?_
  obtain ⟨rfl, N3_q, p3__0⟩ := hQ3_
  have N3_ := Fr.app N1_ N3_q
  refine jg T3_ mM 27 ll3 [(.long ((dp.toInt64) - (if (own_ch (f ((Int32.ofNat m0) + (1 : Int32)))) = (45 : Int32) then (-(own_mg f (z.toNatClampNeg - (m0 + 1)) (m0 + 1) (0 : Int64))) else (own_mg f (z.toNatClampNeg - (m0 + 1)) (m0 + 1) (0 : Int64)))))] (fun tT kK => ?_) ?_
  · refine XS.lsub X3_.here hx rfl (hC e23_26.1) rfl ?_
    exact kK
  exact own_rr X3_ hx hlk hre rfl (Or.inr (Or.inl ⟨rfl, rfl, _, rfl⟩)) (hC e23_26.2) p3__0 (by decide) (by decide) ⟨by subst hdp hpt; rfl, N3_, rfl⟩
theorem e10_0 : jD23 0 (.aload_n 0, 1) ∧ jD23 1 (.invokestatic 26, 3) := by decide +kernel
theorem own_pd17 : parseMethodDescriptor "(Ljava/lang/String;)I" = some ⟨[(.object "java/lang/String")], some .int⟩ := by decide +kernel
theorem e10_4 : jD23 4 (.istore_n 1, 1) ∧ jD23 5 (.aload_n 0, 1) ∧ jD23 6 (.iload_n 1, 1) ∧ jD23 7 (.invokestatic 30, 3) := by decide +kernel
theorem e10_10 : jD23 10 (.lstore_n 2, 1) ∧ jD23 11 (.aload_n 0, 1) ∧ jD23 12 (.iload_n 1, 1) ∧ jD23 13 (.invokestatic 34, 3) := by decide +kernel
theorem e10_16 : jD23 16 (.lstore 4, 2) ∧ jD23 18 (.lload_n 2, 1) ∧ jD23 19 (.l2i, 1) ∧ jD23 20 (.i2l, 1) := by decide +kernel
theorem e10_21 : jD23 21 (.lload_n 2, 1) ∧ jD23 22 (.lcmp, 1) ∧ jD23 23 (.ifCond .ne 17, 3) ∧ jD23 26 (.lload 4, 2) := by decide +kernel
theorem e10_28 : jD23 28 (.l2i, 1) ∧ jD23 29 (.i2l, 1) ∧ jD23 30 (.lload 4, 2) ∧ jD23 32 (.lcmp, 1) := by decide +kernel
theorem e10_33 : jD23 33 (.ifCond .ne 7, 3) ∧ jD23 36 (.iconst 1, 1) ∧ jD23 37 (.goto 4, 3) ∧ jD23 41 (.ireturn, 1) := by decide +kernel
theorem d10_40 : jD23 40 (.iconst 0, 1) := by decide +kernel
theorem own_ef_rm_inr1 (mM : MethodId) (x0 : Addr) : entryFrame mM #[(.ref x0)] 6 = mkF mM 0 #[.val (.ref x0), .unset, .unset, .unset, .unset, .unset] [] := by first | (simp [entryFrame, mkF, argsToLocals, Value.category]; done) | rfl
def Q_rm_inr1 (Z : State) (a : Addr) (m0 : Nat) (t : Addr) (z : Int32) (f : Int32 → Int32) (cs : Int32) (fv : Value) (h0 : Heap) (n0 : Nat) (vV : Option Value) (hH : Heap) (lA : List Loc) : Prop := vV = some (.int (if ((if (own_ch (f ((Int32.ofNat m0) + (1 : Int32)))) = (45 : Int32) then (-(own_mg f (z.toNatClampNeg - (m0 + 1)) (m0 + 1) (0 : Int64))) else (own_mg f (z.toNatClampNeg - (m0 + 1)) (m0 + 1) (0 : Int64))).toInt32).toInt64 = (if (own_ch (f ((Int32.ofNat m0) + (1 : Int32)))) = (45 : Int32) then (-(own_mg f (z.toNatClampNeg - (m0 + 1)) (m0 + 1) (0 : Int64))) else (own_mg f (z.toNatClampNeg - (m0 + 1)) (m0 + 1) (0 : Int64))) then (if (((if (own_fd f ((46 : Int32).toInt8.toInt32) z.toNatClampNeg 0) < (0 : Int32) then (0 : Int32) else (((Int32.ofNat m0) - (own_fd f ((46 : Int32).toInt8.toInt32) z.toNatClampNeg 0)) - (1 : Int32))).toInt64 - (if (own_ch (f ((Int32.ofNat m0) + (1 : Int32)))) = (45 : Int32) then (-(own_mg f (z.toNatClampNeg - (m0 + 1)) (m0 + 1) (0 : Int64))) else (own_mg f (z.toNatClampNeg - (m0 + 1)) (m0 + 1) (0 : Int64)))).toInt32).toInt64 = ((if (own_fd f ((46 : Int32).toInt8.toInt32) z.toNatClampNeg 0) < (0 : Int32) then (0 : Int32) else (((Int32.ofNat m0) - (own_fd f ((46 : Int32).toInt8.toInt32) z.toNatClampNeg 0)) - (1 : Int32))).toInt64 - (if (own_ch (f ((Int32.ofNat m0) + (1 : Int32)))) = (45 : Int32) then (-(own_mg f (z.toNatClampNeg - (m0 + 1)) (m0 + 1) (0 : Int64))) else (own_mg f (z.toNatClampNeg - (m0 + 1)) (m0 + 1) (0 : Int64)))) then (1 : Int32) else (0 : Int32)) else (0 : Int32))) ∧ Fr n0 lA ∧ (hH = h0)
set_option maxRecDepth 65536 in
set_option maxHeartbeats 40000000 in
theorem rm_inr1 (lL : Launch) (Z : State) (a0 : Array Value) (hw : own_H a0 Z) (ws : List Jvm.Cond) (a : Addr) (m0 : Nat) (t : Addr) (z : Int32) (f : Int32 → Int32) (cs : Int32) (fv : Value) (h0 : Heap) (n0 : Nat) (Z0 : n0 ≤ h0.size) (Oo : Old Z n0 h0) (Scs : Sta Z Z.heap "java/lang/String" "COMPACT_STRINGS" "Z" (.int cs)) (ncs : ¬ (cs = (0 : Int32))) (Sfv : Sta Z Z.heap "jdk/internal/util/Preconditions" "SIOOBE_FORMATTER" "Ljava/util/function/BiFunction;" fv) (rfv : fv.isRef = true) (Ea : jE0 Z h0 a) (Fv : jF1 Z h0 a (.ref t)) (Fc : jF0 Z h0 a (.int (0 : Int32))) (Tt : own_T Z h0 t .byte z f) (hnz : ¬ (z = (0 : Int32))) (hm : m0 + 1 < z.toNatClampNeg) (hmk : own_mark f z = (Int32.ofNat m0)) :
    own_Met lL jy23 (Jvm.Cond.code jy23 prog_5_method_4_code 6 (some .boolean) :: ws) jr15 #[(.ref a)] Z h0 (Q_rm_inr1 Z a m0 t z f cs fv h0 n0) := by
  refine own_begin (plainFor_of_name own_pn_com_example_vestwright_vestwright_InputNumbers) (fun mM => own_ef_rm_inr1 mM a) fun pP eE sS mM below meth cC s₁ hx hby hml hZ hown hnm hre hlk X0 e0 => ?_
  have hC := @Jvm.hb _ _ hby
  have N0 := Fr.nil n0
  have K0 := Keep.refl h0 ([] : List Addr)
  let ll1 : Array Slot := #[vR a, vU, vU, vU, vU, vU]
  refine jg s₁ mM 1 ll1 [(.ref a)] (fun tT kK => ?_) ?_
  · refine XS.aloadN X0.here hx rfl (hC e10_0.1) rfl rfl ?_
    exact kK
  refine jc X0 hx hZ (y := jy20) hown (jk hw 59 rfl) (jk hw 60 rfl) (jk hw 57 rfl) (jk hw 61 rfl) (rm_mark lL Z a0 hw [] a t z f cs fv h0 n0 (Nat.le_trans Z0 K0.1) Oo Scs ncs Sfv rfv Ea Fv Fc Tt hnz) e0 own_pd17 [(.ref a)] [] (hC e10_0.2) rfl rfl (by rw [hml]; rfl) (by decide) 0 (Nat.le_of_eq rfl) (by decide) (by decide) (by decide : 0 + 0 ≤ _) (by decide : 0 + 0 ≤ _) fun vv1_ T1_ L1_ X1_ hQ1_ => ?_
  obtain ⟨rfl, N1_q, p1__0⟩ := hQ1_
  have N1_ := Fr.app N0 N1_q
  show own_Fin pP eE below _ (T1_.setTop (mkF mM 4 #[.val (.ref a), .unset, .unset, .unset, .unset, .unset] [(.int (own_mark f z))]))
  rw [hmk]
  let ll2 : Array Slot := #[vR a, vI (Int32.ofNat m0), vU, vU, vU, vU]
  refine jg T1_ mM 7 ll2 [(.int (Int32.ofNat m0)), (.ref a)] (fun tT kK => ?_) ?_
  · refine XS.istoreN X1_.here hx rfl (hC e10_4.1) rfl (l' := ll2) rfl ?_
    refine XS.aloadN X1_.here hx rfl (hC e10_4.2.1) rfl rfl ?_
    refine XS.iloadN X1_.here hx rfl (hC e10_4.2.2.1) rfl ?_
    exact kK
  refine jc X1_ hx hZ (y := jy21) hown (jk hw 105 rfl) (jk hw 106 rfl) (jk hw 57 rfl) (jk hw 107 rfl) (rm_exp lL Z a0 hw [] a m0 t z f cs fv h0 n0 (Nat.le_trans Z0 K0.1) Oo Scs ncs Sfv rfv Ea Fv Fc Tt hm) p1__0 own_pd16 [(.ref a), (.int (Int32.ofNat m0))] [] (hC e10_4.2.2.2) rfl rfl (by rw [hml]; rfl) (by decide) 0 (Nat.le_of_eq rfl) (by decide) (by decide) (by decide : 0 + 0 ≤ _) (by decide : 0 + 0 ≤ _) fun vv2_ T2_ L2_ X2_ hQ2_ => ?_
  obtain ⟨rfl, N2_q, p2__0⟩ := hQ2_
  have N2_ := Fr.app N1_ N2_q
  let ll3 : Array Slot := #[vR a, vI (Int32.ofNat m0), vJ (if (own_ch (f ((Int32.ofNat m0) + (1 : Int32)))) = (45 : Int32) then (-(own_mg f (z.toNatClampNeg - (m0 + 1)) (m0 + 1) (0 : Int64))) else (own_mg f (z.toNatClampNeg - (m0 + 1)) (m0 + 1) (0 : Int64))), vS, vU, vU]
  refine jg T2_ mM 11 ll3 [] (fun tT kK => ?_) ?_
  · refine XS.lstoreN X2_.here hx rfl (hC e10_10.1) rfl (l' := ll3) rfl ?_
    exact kK
  show own_Fin pP eE below _ (T2_.setTop (mkF mM 11 #[.val (.ref a), .val (.int (Int32.ofNat m0)), .val (.long (if (own_ch (f ((Int32.ofNat m0) + (1 : Int32)))) = (45 : Int32) then (-(own_mg f (z.toNatClampNeg - (m0 + 1)) (m0 + 1) (0 : Int64))) else (own_mg f (z.toNatClampNeg - (m0 + 1)) (m0 + 1) (0 : Int64)))), .second, .unset, .unset] []))
  generalize hev : (if (own_ch (f ((Int32.ofNat m0) + (1 : Int32)))) = (45 : Int32) then (-(own_mg f (z.toNatClampNeg - (m0 + 1)) (m0 + 1) (0 : Int64))) else (own_mg f (z.toNatClampNeg - (m0 + 1)) (m0 + 1) (0 : Int64))) = ev
  let ll4 : Array Slot := #[vR a, vI (Int32.ofNat m0), vJ ev, vS, vU, vU]
  refine jg T2_ mM 13 ll4 [(.int (Int32.ofNat m0)), (.ref a)] (fun tT kK => ?_) ?_
  · refine XS.aloadN X2_.here hx rfl (hC e10_10.2.1) rfl rfl ?_
    refine XS.iloadN X2_.here hx rfl (hC e10_10.2.2.1) rfl ?_
    exact kK
  refine jc X2_ hx hZ (y := jy22) hown (jk hw 108 rfl) (jk hw 109 rfl) (jk hw 57 rfl) (jk hw 110 rfl) (rm_dec1 lL Z a0 hw [] a m0 t z f cs fv h0 n0 (Nat.le_trans Z0 K0.1) Oo Scs ncs Sfv rfv Ea Fv Fc Tt hnz hm) p2__0 own_pd16 [(.ref a), (.int (Int32.ofNat m0))] [] (hC e10_10.2.2.2) rfl rfl (by rw [hml]; rfl) (by decide) 0 (Nat.le_of_eq rfl) (by decide) (by decide) (by decide : 0 + 0 ≤ _) (by decide : 0 + 0 ≤ _) fun vv3_ T3_ L3_ X3_ hQ3_ => ?_
  obtain ⟨rfl, N3_q, p3__0⟩ := hQ3_
  have N3_ := Fr.app N2_ N3_q
  let ll5 : Array Slot := #[vR a, vI (Int32.ofNat m0), vJ ev, vS, vJ ((if (own_fd f ((46 : Int32).toInt8.toInt32) z.toNatClampNeg 0) < (0 : Int32) then (0 : Int32) else (((Int32.ofNat m0) - (own_fd f ((46 : Int32).toInt8.toInt32) z.toNatClampNeg 0)) - (1 : Int32))).toInt64 - (if (own_ch (f ((Int32.ofNat m0) + (1 : Int32)))) = (45 : Int32) then (-(own_mg f (z.toNatClampNeg - (m0 + 1)) (m0 + 1) (0 : Int64))) else (own_mg f (z.toNatClampNeg - (m0 + 1)) (m0 + 1) (0 : Int64)))), vS]
  refine jg T3_ mM 18 ll5 [] (fun tT kK => ?_) ?_
  · refine XS.lstore X3_.here hx rfl (hC e10_16.1) rfl (l' := ll5) rfl ?_
    exact kK
  show own_Fin pP eE below _ (T3_.setTop (mkF mM 18 #[.val (.ref a), .val (.int (Int32.ofNat m0)), .val (.long ev), .second, .val (.long ((if (own_fd f ((46 : Int32).toInt8.toInt32) z.toNatClampNeg 0) < (0 : Int32) then (0 : Int32) else (((Int32.ofNat m0) - (own_fd f ((46 : Int32).toInt8.toInt32) z.toNatClampNeg 0)) - (1 : Int32))).toInt64 - (if (own_ch (f ((Int32.ofNat m0) + (1 : Int32)))) = (45 : Int32) then (-(own_mg f (z.toNatClampNeg - (m0 + 1)) (m0 + 1) (0 : Int64))) else (own_mg f (z.toNatClampNeg - (m0 + 1)) (m0 + 1) (0 : Int64))))), .second] []))
  generalize hdv : ((if (own_fd f ((46 : Int32).toInt8.toInt32) z.toNatClampNeg 0) < (0 : Int32) then (0 : Int32) else (((Int32.ofNat m0) - (own_fd f ((46 : Int32).toInt8.toInt32) z.toNatClampNeg 0)) - (1 : Int32))).toInt64 - (if (own_ch (f ((Int32.ofNat m0) + (1 : Int32)))) = (45 : Int32) then (-(own_mg f (z.toNatClampNeg - (m0 + 1)) (m0 + 1) (0 : Int64))) else (own_mg f (z.toNatClampNeg - (m0 + 1)) (m0 + 1) (0 : Int64)))) = dv
  let ll6 : Array Slot := #[vR a, vI (Int32.ofNat m0), vJ ev, vS, vJ dv, vS]
  refine jg T3_ mM 23 ll6 [(.int (lcmpW ((ev.toInt32).toInt64) ev))] (fun tT kK => ?_) ?_
  · refine XS.lloadN X3_.here hx rfl (hC e10_16.2.1) rfl ?_
    refine XS.l2i X3_.here hx rfl (hC e10_16.2.2.1) rfl ?_
    refine XS.i2l X3_.here hx rfl (hC e10_16.2.2.2) rfl ?_
    refine XS.lloadN X3_.here hx rfl (hC e10_21.1) rfl ?_
    refine XS.lcmp X3_.here hx rfl (hC e10_21.2.1) rfl ?_
    exact kK
  by_cases hc23_4_ : ((ev.toInt32).toInt64) = ev
  · refine jg T3_ mM 33 ll6 [(.int (lcmpW ((dv.toInt32).toInt64) dv))] (fun tT kK => ?_) ?_
    · refine XS.ifNo X3_.here hx rfl (hC e10_21.2.2.1) rfl ((if0 _ _).trans (teq ((lw_eq ((ev.toInt32).toInt64) ev).mpr (hc23_4_ : ((ev.toInt32).toInt64) = ev))).2) ?_
      refine XS.lload X3_.here hx rfl (hC e10_21.2.2.2) rfl ?_
      refine XS.l2i X3_.here hx rfl (hC e10_28.1) rfl ?_
      refine XS.i2l X3_.here hx rfl (hC e10_28.2.1) rfl ?_
      refine XS.lload X3_.here hx rfl (hC e10_28.2.2.1) rfl ?_
      refine XS.lcmp X3_.here hx rfl (hC e10_28.2.2.2) rfl ?_
      exact kK
    by_cases hc33_5_ : ((dv.toInt32).toInt64) = dv
    · refine jg T3_ mM 41 ll6 [(.int (1 : Int32))] (fun tT kK => ?_) ?_
      · refine XS.ifNo X3_.here hx rfl (hC e10_33.1) rfl ((if0 _ _).trans (teq ((lw_eq ((dv.toInt32).toInt64) dv).mpr (hc33_5_ : ((dv.toInt32).toInt64) = dv))).2) ?_
        refine XS.iconst X3_.here hx rfl (hC e10_33.2.1) ?_
        refine XS.goto X3_.here hx rfl (pc0 := 37) (pc' := 41) rfl (hC e10_33.2.2.1) (by decide) (by decide) ?_
        exact kK
      exact own_rL X3_ hx hlk hre (by simp) (hC e10_33.2.2.2) (w := (.int (1 : Int32))) rfl p3__0 (by decide) (by decide) ⟨by subst hdv hev; rw [if_pos hc23_4_, if_pos hc33_5_], N3_, rfl⟩
    · refine jg T3_ mM 41 ll6 [(.int (0 : Int32))] (fun tT kK => ?_) ?_
      · refine XS.ifYes X3_.here hx rfl (pc0 := 33) (pc' := 40) rfl (hC e10_33.1) rfl ((if0 _ _).trans (feq (mt (lw_eq ((dv.toInt32).toInt64) dv).mp (hc33_5_ : ¬ (((dv.toInt32).toInt64) = dv)))).2) (by decide) (by decide) ?_
        refine XS.iconst X3_.here hx rfl (hC d10_40) ?_
        exact kK
      exact own_rL X3_ hx hlk hre (by simp) (hC e10_33.2.2.2) (w := (.int (0 : Int32))) rfl p3__0 (by decide) (by decide) ⟨by subst hdv hev; rw [if_pos hc23_4_, if_neg hc33_5_], N3_, rfl⟩
  · refine jg T3_ mM 41 ll6 [(.int (0 : Int32))] (fun tT kK => ?_) ?_
    · refine XS.ifYes X3_.here hx rfl (pc0 := 23) (pc' := 40) rfl (hC e10_21.2.2.1) rfl ((if0 _ _).trans (feq (mt (lw_eq ((ev.toInt32).toInt64) ev).mp (hc23_4_ : ¬ (((ev.toInt32).toInt64) = ev)))).2) (by decide) (by decide) ?_
      refine XS.iconst X3_.here hx rfl (hC d10_40) ?_
      exact kK
    exact own_rL X3_ hx hlk hre (by simp) (hC e10_33.2.2.2) (w := (.int (0 : Int32))) rfl p3__0 (by decide) (by decide) ⟨by subst hdv hev; rw [if_neg hc23_4_], N3_, rfl⟩
theorem own_ef_rm_dec0 (mM : MethodId) (x0 : Addr) (x1 : Int32) : entryFrame mM #[(.ref x0), (.int x1)] 3 = mkF mM 0 #[.val (.ref x0), .val (.int x1), .unset] [] := by first | (simp [entryFrame, mkF, argsToLocals, Value.category]; done) | rfl
def Q_rm_dec0 (Z : State) (a : Addr) (t : Addr) (z : Int32) (f : Int32 → Int32) (cs : Int32) (fv : Value) (h0 : Heap) (n0 : Nat) (vV : Option Value) (hH : Heap) (lA : List Loc) : Prop := vV = some (.long ((if (own_fd f ((46 : Int32).toInt8.toInt32) z.toNatClampNeg 0) < (0 : Int32) then (0 : Int32) else ((z - (own_fd f ((46 : Int32).toInt8.toInt32) z.toNatClampNeg 0)) - (1 : Int32))).toInt64 - (0 : Int64))) ∧ Fr n0 lA ∧ (hH = h0)
set_option maxRecDepth 65536 in
set_option maxHeartbeats 40000000 in
theorem rm_dec0 (lL : Launch) (Z : State) (a0 : Array Value) (hw : own_H a0 Z) (ws : List Jvm.Cond) (a : Addr) (t : Addr) (z : Int32) (f : Int32 → Int32) (cs : Int32) (fv : Value) (h0 : Heap) (n0 : Nat) (Z0 : n0 ≤ h0.size) (Oo : Old Z n0 h0) (Scs : Sta Z Z.heap "java/lang/String" "COMPACT_STRINGS" "Z" (.int cs)) (ncs : ¬ (cs = (0 : Int32))) (Sfv : Sta Z Z.heap "jdk/internal/util/Preconditions" "SIOOBE_FORMATTER" "Ljava/util/function/BiFunction;" fv) (rfv : fv.isRef = true) (Ea : jE0 Z h0 a) (Fv : jF1 Z h0 a (.ref t)) (Fc : jF0 Z h0 a (.int (0 : Int32))) (Tt : own_T Z h0 t .byte z f) (hnz : ¬ (z = (0 : Int32))) (hs : ¬ ((z + (1 : Int32)) < z)) :
    own_Met lL jy22 (Jvm.Cond.code jy22 prog_5_method_7_code 3 (some .long) :: ws) jr11 #[(.ref a), (.int z)] Z h0 (Q_rm_dec0 Z a t z f cs fv h0 n0) := by
  refine own_begin (plainFor_of_name own_pn_com_example_vestwright_vestwright_InputNumbers) (fun mM => own_ef_rm_dec0 mM a z) fun pP eE sS mM below meth cC s₁ hx hby hml hZ hown hnm hre hlk X0 e0 => ?_
  have hC := @Jvm.hb _ _ hby
  have N0 := Fr.nil n0
  have K0 := Keep.refl h0 ([] : List Addr)
  refine jg s₁ mM 3 #[vR a, vI z, vU] [(.int (46 : Int32)), (.ref a)] (fun tT kK => ?_) ?_
  · refine XS.aloadN X0.here hx rfl (hC e23_0.1) rfl rfl ?_
    refine XS.bipush X0.here hx rfl (hC e23_0.2.1) ?_
    exact kK
  refine jv X0 hx hZ (y := jy18) hown (jk hw 62 rfl) (jk hw 63 rfl) (jk hw 65 rfl) (jk hw 64 rfl) (jk hw 66 rfl) (jk hw 26 rfl) (rm_ix lL Z a0 hw [] a (46 : Int32) t z f cs h0 n0 (Nat.le_trans Z0 K0.1) Oo Scs ncs Ea Fv Fc Tt (by decide) (by decide) hnz) Ea e0 own_pd13 [(.int (46 : Int32))] [] (hC e23_0.2.2.1) rfl rfl (by rw [hml]; rfl) (by decide) 0 (Nat.le_of_eq rfl) (by decide) (by decide) (by decide : 0 + 0 ≤ _) (by decide : 0 + 0 ≤ _) fun vv1_ T1_ L1_ X1_ hQ1_ => ?_
  obtain ⟨rfl, N1_q, p1__0⟩ := hQ1_
  have N1_ := Fr.app N0 N1_q
  let ll1 : Array Slot := #[vR a, vI z, vI (own_fd f ((46 : Int32).toInt8.toInt32) z.toNatClampNeg 0)]
  refine jg T1_ mM 7 ll1 [] (fun tT kK => ?_) ?_
  · refine XS.istoreN X1_.here hx rfl (hC e23_0.2.2.2) rfl (l' := ll1) rfl ?_
    exact kK
  show own_Fin pP eE below _ (T1_.setTop (mkF mM 7 #[.val (.ref a), .val (.int z), .val (.int (own_fd f ((46 : Int32).toInt8.toInt32) z.toNatClampNeg 0))] []))
  generalize hpt : (own_fd f ((46 : Int32).toInt8.toInt32) z.toNatClampNeg 0) = pt
  refine jg T1_ mM 8 #[vR a, vI z, vI pt] [(.int pt)] (fun tT kK => ?_) ?_
  · refine XS.iloadN X1_.here hx rfl (hC e23_7.1) rfl ?_
    exact kK
  obtain ⟨dp, hdp, st2_⟩ : ∃ dp : Int32, (dp = (if pt < (0 : Int32) then (0 : Int32) else ((z - pt) - (1 : Int32)))) ∧ ∀ tT, Steps pP.tables eE below (T1_.setTop (mkF mM 20 #[.val (.ref a), .val (.int z), .val (.int pt)] [(.int dp)])) tT → Steps pP.tables eE below (T1_.setTop (mkF mM 8 #[.val (.ref a), .val (.int z), .val (.int pt)] [(.int pt)])) tT := by
    by_cases hm1 : pt < (0 : Int32)
    · refine ⟨(0 : Int32), by rw [if_pos hm1], fun tT kK => ?_⟩
      refine XS.ifNo X1_.here hx rfl (hC e23_7.2.1) rfl ((if0 _ _).trans (tlt (hm1 : pt < (0 : Int32))).2.1) ?_
      refine XS.iconst X1_.here hx rfl (hC e23_7.2.2.1) ?_
      refine XS.goto X1_.here hx rfl (pc0 := 12) (pc' := 20) rfl (hC e23_7.2.2.2) (by decide) (by decide) ?_
      exact kK
    · refine ⟨((z - pt) - (1 : Int32)), by rw [if_neg hm1], fun tT kK => ?_⟩
      refine XS.ifYes X1_.here hx rfl (pc0 := 8) (pc' := 15) rfl (hC e23_7.2.1) rfl ((if0 _ _).trans (flt (hm1 : ¬ (pt < (0 : Int32)))).2.1) (by decide) (by decide) ?_
      refine XS.iloadN X1_.here hx rfl (hC e23_15.1) rfl ?_
      refine XS.iloadN X1_.here hx rfl (hC e23_15.2.1) rfl ?_
      refine XS.isub X1_.here hx rfl (hC e23_15.2.2.1) rfl ?_
      refine XS.iconst X1_.here hx rfl (hC e23_15.2.2.2) ?_
      refine XS.isub X1_.here hx rfl (hC e23_19.1) rfl ?_
      exact kK
  refine own_fin st2_ ?_
  refine jg T1_ mM 23 #[vR a, vI z, vI pt] [(.int z), (.ref a), (.long (dp.toInt64))] (fun tT kK => ?_) ?_
  · refine XS.i2l X1_.here hx rfl (hC e23_19.2.1) rfl ?_
    refine XS.aloadN X1_.here hx rfl (hC e23_19.2.2.1) rfl rfl ?_
    refine XS.iloadN X1_.here hx rfl (hC e23_19.2.2.2) rfl ?_
    exact kK
  refine jc X1_ hx hZ (y := jy21) hown (jk hw 105 rfl) (jk hw 106 rfl) (jk hw 57 rfl) (jk hw 107 rfl) (rm_exp0 lL Z a0 hw [] a t z f cs fv h0 n0 (Nat.le_trans Z0 K0.1) Oo Scs ncs Sfv rfv Ea Fv Fc Tt hs) p1__0 own_pd16 [(.ref a), (.int z)] [(.long (dp.toInt64))] (hC d23_23) rfl rfl (by rw [hml]; rfl) (by decide) 2 (Nat.le_of_eq rfl) (by decide) (by decide) (by decide : 0 + 0 ≤ _) (by decide : 0 + 0 ≤ _) fun vv3_ T3_ L3_ X3_ hQ3_ => ?_
  obtain ⟨rfl, N3_q, p3__0⟩ := hQ3_
  have N3_ := Fr.app N1_ N3_q
  refine jg T3_ mM 27 #[vR a, vI z, vI pt] [(.long ((dp.toInt64) - (0 : Int64)))] (fun tT kK => ?_) ?_
  · refine XS.lsub X3_.here hx rfl (hC e23_26.1) rfl ?_
    exact kK
  exact own_rr X3_ hx hlk hre rfl (Or.inr (Or.inl ⟨rfl, rfl, _, rfl⟩)) (hC e23_26.2) p3__0 (by decide) (by decide) ⟨by subst hdp hpt; rfl, N3_, rfl⟩
theorem own_ef_rm_inr0 (mM : MethodId) (x0 : Addr) : entryFrame mM #[(.ref x0)] 6 = mkF mM 0 #[.val (.ref x0), .unset, .unset, .unset, .unset, .unset] [] := by first | (simp [entryFrame, mkF, argsToLocals, Value.category]; done) | rfl
def Q_rm_inr0 (Z : State) (a : Addr) (t : Addr) (z : Int32) (f : Int32 → Int32) (cs : Int32) (fv : Value) (h0 : Heap) (n0 : Nat) (vV : Option Value) (hH : Heap) (lA : List Loc) : Prop := vV = some (.int (if ((0 : Int64).toInt32).toInt64 = (0 : Int64) then (if (((if (own_fd f ((46 : Int32).toInt8.toInt32) z.toNatClampNeg 0) < (0 : Int32) then (0 : Int32) else ((z - (own_fd f ((46 : Int32).toInt8.toInt32) z.toNatClampNeg 0)) - (1 : Int32))).toInt64 - (0 : Int64)).toInt32).toInt64 = ((if (own_fd f ((46 : Int32).toInt8.toInt32) z.toNatClampNeg 0) < (0 : Int32) then (0 : Int32) else ((z - (own_fd f ((46 : Int32).toInt8.toInt32) z.toNatClampNeg 0)) - (1 : Int32))).toInt64 - (0 : Int64)) then (1 : Int32) else (0 : Int32)) else (0 : Int32))) ∧ Fr n0 lA ∧ (hH = h0)
set_option maxRecDepth 65536 in
set_option maxHeartbeats 40000000 in
theorem rm_inr0 (lL : Launch) (Z : State) (a0 : Array Value) (hw : own_H a0 Z) (ws : List Jvm.Cond) (a : Addr) (t : Addr) (z : Int32) (f : Int32 → Int32) (cs : Int32) (fv : Value) (h0 : Heap) (n0 : Nat) (Z0 : n0 ≤ h0.size) (Oo : Old Z n0 h0) (Scs : Sta Z Z.heap "java/lang/String" "COMPACT_STRINGS" "Z" (.int cs)) (ncs : ¬ (cs = (0 : Int32))) (Sfv : Sta Z Z.heap "jdk/internal/util/Preconditions" "SIOOBE_FORMATTER" "Ljava/util/function/BiFunction;" fv) (rfv : fv.isRef = true) (Ea : jE0 Z h0 a) (Fv : jF1 Z h0 a (.ref t)) (Fc : jF0 Z h0 a (.int (0 : Int32))) (Tt : own_T Z h0 t .byte z f) (hnz : ¬ (z = (0 : Int32))) (hs : ¬ ((z + (1 : Int32)) < z)) (hmk : own_mark f z = z) :
    own_Met lL jy23 (Jvm.Cond.code jy23 prog_5_method_4_code 6 (some .boolean) :: ws) jr16 #[(.ref a)] Z h0 (Q_rm_inr0 Z a t z f cs fv h0 n0) := by
  refine own_begin (plainFor_of_name own_pn_com_example_vestwright_vestwright_InputNumbers) (fun mM => own_ef_rm_inr0 mM a) fun pP eE sS mM below meth cC s₁ hx hby hml hZ hown hnm hre hlk X0 e0 => ?_
  have hC := @Jvm.hb _ _ hby
  have N0 := Fr.nil n0
  have K0 := Keep.refl h0 ([] : List Addr)
  let ll1 : Array Slot := #[vR a, vU, vU, vU, vU, vU]
  refine jg s₁ mM 1 ll1 [(.ref a)] (fun tT kK => ?_) ?_
  · refine XS.aloadN X0.here hx rfl (hC e10_0.1) rfl rfl ?_
    exact kK
  refine jc X0 hx hZ (y := jy20) hown (jk hw 59 rfl) (jk hw 60 rfl) (jk hw 57 rfl) (jk hw 61 rfl) (rm_mark lL Z a0 hw [] a t z f cs fv h0 n0 (Nat.le_trans Z0 K0.1) Oo Scs ncs Sfv rfv Ea Fv Fc Tt hnz) e0 own_pd17 [(.ref a)] [] (hC e10_0.2) rfl rfl (by rw [hml]; rfl) (by decide) 0 (Nat.le_of_eq rfl) (by decide) (by decide) (by decide : 0 + 0 ≤ _) (by decide : 0 + 0 ≤ _) fun vv1_ T1_ L1_ X1_ hQ1_ => ?_
  obtain ⟨rfl, N1_q, p1__0⟩ := hQ1_
  have N1_ := Fr.app N0 N1_q
  show own_Fin pP eE below _ (T1_.setTop (mkF mM 4 #[.val (.ref a), .unset, .unset, .unset, .unset, .unset] [(.int (own_mark f z))]))
  rw [hmk]
  let ll2 : Array Slot := #[vR a, vI z, vU, vU, vU, vU]
  refine jg T1_ mM 7 ll2 [(.int z), (.ref a)] (fun tT kK => ?_) ?_
  · refine XS.istoreN X1_.here hx rfl (hC e10_4.1) rfl (l' := ll2) rfl ?_
    refine XS.aloadN X1_.here hx rfl (hC e10_4.2.1) rfl rfl ?_
    refine XS.iloadN X1_.here hx rfl (hC e10_4.2.2.1) rfl ?_
    exact kK
  refine jc X1_ hx hZ (y := jy21) hown (jk hw 105 rfl) (jk hw 106 rfl) (jk hw 57 rfl) (jk hw 107 rfl) (rm_exp0 lL Z a0 hw [] a t z f cs fv h0 n0 (Nat.le_trans Z0 K0.1) Oo Scs ncs Sfv rfv Ea Fv Fc Tt hs) p1__0 own_pd16 [(.ref a), (.int z)] [] (hC e10_4.2.2.2) rfl rfl (by rw [hml]; rfl) (by decide) 0 (Nat.le_of_eq rfl) (by decide) (by decide) (by decide : 0 + 0 ≤ _) (by decide : 0 + 0 ≤ _) fun vv2_ T2_ L2_ X2_ hQ2_ => ?_
  obtain ⟨rfl, N2_q, p2__0⟩ := hQ2_
  have N2_ := Fr.app N1_ N2_q
  let ll3 : Array Slot := #[vR a, vI z, vJ 0, vS, vU, vU]
  refine jg T2_ mM 11 ll3 [] (fun tT kK => ?_) ?_
  · refine XS.lstoreN X2_.here hx rfl (hC e10_10.1) rfl (l' := ll3) rfl ?_
    exact kK
  show own_Fin pP eE below _ (T2_.setTop (mkF mM 11 #[.val (.ref a), .val (.int z), .val (.long (0 : Int64)), .second, .unset, .unset] []))
  generalize hev : (0 : Int64) = ev
  let ll4 : Array Slot := #[vR a, vI z, vJ ev, vS, vU, vU]
  refine jg T2_ mM 13 ll4 [(.int z), (.ref a)] (fun tT kK => ?_) ?_
  · refine XS.aloadN X2_.here hx rfl (hC e10_10.2.1) rfl rfl ?_
    refine XS.iloadN X2_.here hx rfl (hC e10_10.2.2.1) rfl ?_
    exact kK
  refine jc X2_ hx hZ (y := jy22) hown (jk hw 108 rfl) (jk hw 109 rfl) (jk hw 57 rfl) (jk hw 110 rfl) (rm_dec0 lL Z a0 hw [] a t z f cs fv h0 n0 (Nat.le_trans Z0 K0.1) Oo Scs ncs Sfv rfv Ea Fv Fc Tt hnz hs) p2__0 own_pd16 [(.ref a), (.int z)] [] (hC e10_10.2.2.2) rfl rfl (by rw [hml]; rfl) (by decide) 0 (Nat.le_of_eq rfl) (by decide) (by decide) (by decide : 0 + 0 ≤ _) (by decide : 0 + 0 ≤ _) fun vv3_ T3_ L3_ X3_ hQ3_ => ?_
  obtain ⟨rfl, N3_q, p3__0⟩ := hQ3_
  have N3_ := Fr.app N2_ N3_q
  let ll5 : Array Slot := #[vR a, vI z, vJ ev, vS, vJ ((if (own_fd f ((46 : Int32).toInt8.toInt32) z.toNatClampNeg 0) < (0 : Int32) then (0 : Int32) else ((z - (own_fd f ((46 : Int32).toInt8.toInt32) z.toNatClampNeg 0)) - (1 : Int32))).toInt64 - (0 : Int64)), vS]
  refine jg T3_ mM 18 ll5 [] (fun tT kK => ?_) ?_
  · refine XS.lstore X3_.here hx rfl (hC e10_16.1) rfl (l' := ll5) rfl ?_
    exact kK
  show own_Fin pP eE below _ (T3_.setTop (mkF mM 18 #[.val (.ref a), .val (.int z), .val (.long ev), .second, .val (.long ((if (own_fd f ((46 : Int32).toInt8.toInt32) z.toNatClampNeg 0) < (0 : Int32) then (0 : Int32) else ((z - (own_fd f ((46 : Int32).toInt8.toInt32) z.toNatClampNeg 0)) - (1 : Int32))).toInt64 - (0 : Int64))), .second] []))
  generalize hdv : ((if (own_fd f ((46 : Int32).toInt8.toInt32) z.toNatClampNeg 0) < (0 : Int32) then (0 : Int32) else ((z - (own_fd f ((46 : Int32).toInt8.toInt32) z.toNatClampNeg 0)) - (1 : Int32))).toInt64 - (0 : Int64)) = dv
  let ll6 : Array Slot := #[vR a, vI z, vJ ev, vS, vJ dv, vS]
  refine jg T3_ mM 23 ll6 [(.int (lcmpW ((ev.toInt32).toInt64) ev))] (fun tT kK => ?_) ?_
  · refine XS.lloadN X3_.here hx rfl (hC e10_16.2.1) rfl ?_
    refine XS.l2i X3_.here hx rfl (hC e10_16.2.2.1) rfl ?_
    refine XS.i2l X3_.here hx rfl (hC e10_16.2.2.2) rfl ?_
    refine XS.lloadN X3_.here hx rfl (hC e10_21.1) rfl ?_
    refine XS.lcmp X3_.here hx rfl (hC e10_21.2.1) rfl ?_
    exact kK
  by_cases hc23_4_ : ((ev.toInt32).toInt64) = ev
  · refine jg T3_ mM 33 ll6 [(.int (lcmpW ((dv.toInt32).toInt64) dv))] (fun tT kK => ?_) ?_
    · refine XS.ifNo X3_.here hx rfl (hC e10_21.2.2.1) rfl ((if0 _ _).trans (teq ((lw_eq ((ev.toInt32).toInt64) ev).mpr (hc23_4_ : ((ev.toInt32).toInt64) = ev))).2) ?_
      refine XS.lload X3_.here hx rfl (hC e10_21.2.2.2) rfl ?_
      refine XS.l2i X3_.here hx rfl (hC e10_28.1) rfl ?_
      refine XS.i2l X3_.here hx rfl (hC e10_28.2.1) rfl ?_
      refine XS.lload X3_.here hx rfl (hC e10_28.2.2.1) rfl ?_
      refine XS.lcmp X3_.here hx rfl (hC e10_28.2.2.2) rfl ?_
      exact kK
    by_cases hc33_5_ : ((dv.toInt32).toInt64) = dv
    · refine jg T3_ mM 41 ll6 [(.int (1 : Int32))] (fun tT kK => ?_) ?_
      · refine XS.ifNo X3_.here hx rfl (hC e10_33.1) rfl ((if0 _ _).trans (teq ((lw_eq ((dv.toInt32).toInt64) dv).mpr (hc33_5_ : ((dv.toInt32).toInt64) = dv))).2) ?_
        refine XS.iconst X3_.here hx rfl (hC e10_33.2.1) ?_
        refine XS.goto X3_.here hx rfl (pc0 := 37) (pc' := 41) rfl (hC e10_33.2.2.1) (by decide) (by decide) ?_
        exact kK
      exact own_rL X3_ hx hlk hre (by simp) (hC e10_33.2.2.2) (w := (.int (1 : Int32))) rfl p3__0 (by decide) (by decide) ⟨by subst hdv hev; rw [if_pos hc23_4_, if_pos hc33_5_], N3_, rfl⟩
    · refine jg T3_ mM 41 ll6 [(.int (0 : Int32))] (fun tT kK => ?_) ?_
      · refine XS.ifYes X3_.here hx rfl (pc0 := 33) (pc' := 40) rfl (hC e10_33.1) rfl ((if0 _ _).trans (feq (mt (lw_eq ((dv.toInt32).toInt64) dv).mp (hc33_5_ : ¬ (((dv.toInt32).toInt64) = dv)))).2) (by decide) (by decide) ?_
        refine XS.iconst X3_.here hx rfl (hC d10_40) ?_
        exact kK
      exact own_rL X3_ hx hlk hre (by simp) (hC e10_33.2.2.2) (w := (.int (0 : Int32))) rfl p3__0 (by decide) (by decide) ⟨by subst hdv hev; rw [if_pos hc23_4_, if_neg hc33_5_], N3_, rfl⟩
  · refine jg T3_ mM 41 ll6 [(.int (0 : Int32))] (fun tT kK => ?_) ?_
    · refine XS.ifYes X3_.here hx rfl (pc0 := 23) (pc' := 40) rfl (hC e10_21.2.2.1) rfl ((if0 _ _).trans (feq (mt (lw_eq ((ev.toInt32).toInt64) ev).mp (hc23_4_ : ¬ (((ev.toInt32).toInt64) = ev)))).2) (by decide) (by decide) ?_
      refine XS.iconst X3_.here hx rfl (hC d10_40) ?_
      exact kK
    exact own_rL X3_ hx hlk hre (by simp) (hC e10_33.2.2.2) (w := (.int (0 : Int32))) rfl p3__0 (by decide) (by decide) ⟨by subst hdv hev; rw [if_neg hc23_4_], N3_, rfl⟩
def own_g (xs : List Int32) (j : Int32) : Int32 := xs.getD j.toNatClampNeg 0
theorem own_gm (xs : List Int32) (k : Nat) : (xs.map Value.int).getD k (.int 0) = .int (xs.getD k 0) := by
  induction xs generalizing k with
  | nil => rfl
  | cons x t ih => cases k with
    | zero => rfl
    | succ k => exact ih k
theorem own_T.ofV {Z : State} {h : Heap} {a : Addr} {k : ClassId} {ty : FieldType} {z : Int32} {xs : List Int32} (F : Arv Z h a k ty z (xs.map Value.int) (.int 0)) : own_T Z h a ty z (own_g xs) := by
  obtain ⟨c, A, -, S, N, H, -⟩ := F
  exact ⟨c, A, S, N, fun j hj => H.at hj (own_gm xs _)⟩
theorem own_gP {P : Int32 → Prop} {xs : List Int32} (h0 : P 0) (h : ∀ x ∈ xs, P x) (j : Int32) : P (own_g xs j) := by
  unfold own_g
  rw [List.getD_eq_getElem?_getD]
  cases e : xs[j.toNatClampNeg]? with
  | none => exact h0
  | some x => exact h x (List.mem_of_getElem? e)
theorem own_and3 (k : Int32) : (k &&& (3 : Int32)) = 0 ∨ (k &&& (3 : Int32)) = 1 ∨ (k &&& (3 : Int32)) = 2 ∨ (k &&& (3 : Int32)) = 3 := by
  have h := c_mask k (3 : Int32) 2 (by decide) (by decide)
  simp only [← Int32.toInt_inj]
  rw [show (0 : Int32).toInt = 0 from rfl, show (1 : Int32).toInt = 1 from rfl, show (2 : Int32).toInt = 2 from rfl, show (3 : Int32).toInt = 3 from rfl, h]; omega
theorem own_mgb {q mg : Int64} (h : ((q &&& (9223372036854775807 : Int64)) % (100000000000 : Int64)) = mg) : 0 ≤ mg.toInt ∧ mg.toInt < 100000000000 := by
  have m := c_maskL q (9223372036854775807 : Int64) 63 (by decide) (by decide)
  rw [← h, Int64.toInt_mod, Int.tmod_eq_emod_of_nonneg (by rw [m]; omega), show (100000000000 : Int64).toInt = 100000000000 from rfl]
  omega
def own_nz (p : Int32) : Int32 := (49 : Int32) + ((p &&& (15 : Int32)) % (9 : Int32))
def own_dgt (p : Int32) : Int32 := (48 : Int32) + ((p &&& (15 : Int32)) % (10 : Int32))
def own_dec (u v : Int64) : Int32 := (48 : Int32) + (((u / v) % (10 : Int64)).toInt32)
theorem own_nzt (p : Int32) : 49 ≤ (own_nz p).toInt ∧ (own_nz p).toInt ≤ 57 := by
  have m := c_mask p (15 : Int32) 4 (by decide) (by decide)
  have r := (c_irem (p &&& (15 : Int32)) 9 9 rfl).1 (by omega)
  have a := c_iadd (49 : Int32) ((p &&& (15 : Int32)) % (9 : Int32))
  have g := rng32 (own_nz p)
  rw [show (49 : Int32).toInt = 49 from rfl] at a
  change (((own_nz p).toInt - (49 + ((p &&& (15 : Int32)) % (9 : Int32)).toInt)) % 4294967296 = 0) at a
  omega
theorem own_dgtt (p : Int32) : 48 ≤ (own_dgt p).toInt ∧ (own_dgt p).toInt ≤ 57 := by
  have m := c_mask p (15 : Int32) 4 (by decide) (by decide)
  have r := (c_irem (p &&& (15 : Int32)) 10 10 rfl).1 (by omega)
  have a := c_iadd (48 : Int32) ((p &&& (15 : Int32)) % (10 : Int32))
  have g := rng32 (own_dgt p)
  rw [show (48 : Int32).toInt = 48 from rfl] at a
  change (((own_dgt p).toInt - (48 + ((p &&& (15 : Int32)) % (10 : Int32)).toInt)) % 4294967296 = 0) at a
  omega
theorem own_dect {u v : Int64} (hu : 0 ≤ u.toInt) (hv : 1 ≤ v.toInt) : (own_dec u v).toInt = 48 + (u.toInt / v.toInt) % 10 := by
  have hs : v ≠ -1 := by intro e; subst e; revert hv; decide
  have d : (u / v).toInt = u.toInt / v.toInt := by rw [Int64.toInt_div_of_ne_right u v hs, Int.tdiv_eq_ediv_of_nonneg hu]
  have d0 : 0 ≤ u.toInt / v.toInt := Int.ediv_nonneg hu (by omega)
  have m : ((u / v) % (10 : Int64)).toInt = (u.toInt / v.toInt) % 10 := by rw [Int64.toInt_mod, d, Int.tmod_eq_emod_of_nonneg d0]; rfl
  have l := c_l2i ((u / v) % (10 : Int64))
  have r := rng32 (((u / v) % (10 : Int64)).toInt32)
  have a := c_iadd (48 : Int32) (((u / v) % (10 : Int64)).toInt32)
  have g := rng32 (own_dec u v)
  rw [show (48 : Int32).toInt = 48 from rfl] at a
  change (((own_dec u v).toInt - (48 + (((u / v) % (10 : Int64)).toInt32).toInt)) % 4294967296 = 0) at a
  generalize u.toInt / v.toInt = w at *
  omega
theorem own_cc {x : Int32} (h0 : 0 ≤ x.toInt) (h1 : x.toInt ≤ 65535) : nar .char (x.toUInt32.toUInt16.toUInt32.toInt32) = x := by rw [own_i2c h0 h1, own_nch h0 h1]
theorem own_nzc (p : Int32) : nar .char (((49 : Int32) + ((p &&& (15 : Int32)) % (9 : Int32))).toUInt32.toUInt16.toUInt32.toInt32) = own_nz p := own_cc (x := own_nz p) (by have := own_nzt p; omega) (by have := own_nzt p; omega)
theorem own_dgc (p : Int32) : nar .char (((48 : Int32) + ((p &&& (15 : Int32)) % (10 : Int32))).toUInt32.toUInt16.toUInt32.toInt32) = own_dgt p := own_cc (x := own_dgt p) (by have := own_dgtt p; omega) (by have := own_dgtt p; omega)
theorem own_dcb {u v : Int64} (hu : 0 ≤ u.toInt) (hv : 1 ≤ v.toInt) : 48 ≤ (own_dec u v).toInt ∧ (own_dec u v).toInt ≤ 57 := by rw [own_dect hu hv]; omega
theorem own_dcc {u v : Int64} (hu : 0 ≤ u.toInt) (hv : 1 ≤ v.toInt) : nar .char (((48 : Int32) + (((u / v) % (10 : Int64)).toInt32)).toUInt32.toUInt16.toUInt32.toInt32) = own_dec u v := own_cc (x := own_dec u v) (by have := own_dcb hu hv; omega) (by have := own_dcb hu hv; omega)
theorem own_vnz {v : Int64} (hv : 1 ≤ v.toInt) : ¬ (v = (0 : Int64)) := by rintro rfl; revert hv; decide
def own_R (c : Int32) : Prop := 45 ≤ c.toInt ∧ c.toInt ≤ 57
def own_D (c : Int32) : Prop := 48 ≤ c.toInt ∧ c.toInt ≤ 57
def own_d0 (c : Int32) : Prop := 45 ≤ c.toInt ∧ c.toInt ≤ 57 ∧ c.toInt ≠ 46
theorem own_d0z (p : Int32) : own_d0 (own_nz p) := by have := own_nzt p; unfold own_d0; omega
theorem own_d045 : own_d0 (45 : Int32) := by unfold own_d0; rw [show (45 : Int32).toInt = 45 from rfl]; omega
theorem own_dz (p : Int32) : own_D (own_nz p) := by have := own_nzt p; unfold own_D; omega
theorem own_dd (p : Int32) : own_D (own_dgt p) := own_dgtt p
theorem own_ncs {c : Int32} (h : own_d0 c) : nar .char c = c := own_nch (by have := h.1; omega) (by have := h.2.1; omega)
theorem own_ncd {c : Int32} (h : own_D c) : nar .char c = c := own_nch (by have := h.1; omega) (by have := h.2; omega)
theorem own_nM {c : Int32} (h : own_R c) : nar .char c = c := own_nch (by have := h.1; omega) (by have := h.2; omega)
theorem own_n46 : nar .char (46 : Int32) = (46 : Int32) := by decide
theorem own_46 : (46 : Int32).toInt = 46 := rfl
def own_M (pv m0 m1 m2 m3 m4 m5 : Int32) : Prop := own_R m0 ∧ own_R m1 ∧ own_R m2 ∧ own_R m3 ∧ own_R m4 ∧ own_R m5 ∧
  ((pv = 0 ∧ m0.toInt ≠ 46 ∧ m1.toInt ≠ 46 ∧ m2.toInt ≠ 46 ∧ m3.toInt ≠ 46 ∧ m4.toInt ≠ 46 ∧ m5.toInt ≠ 46) ∨ (pv = 1 ∧ m0.toInt ≠ 46 ∧ m1.toInt ≠ 46 ∧ m2.toInt ≠ 46 ∧ m3.toInt ≠ 46 ∧ m4 = 46) ∨ (pv = 2 ∧ m0.toInt ≠ 46 ∧ m1.toInt ≠ 46 ∧ m2.toInt ≠ 46 ∧ m3 = 46) ∨ (pv = 3 ∧ m0.toInt ≠ 46 ∧ m1.toInt ≠ 46 ∧ m2 = 46))
theorem own_D.R {c : Int32} (h : own_D c) : own_R c := ⟨by have := h.1; omega, h.2⟩
theorem own_D.n {c : Int32} (h : own_D c) : c.toInt ≠ 46 := by have := h.1; omega
theorem own_R46 : own_R (46 : Int32) := by unfold own_R; rw [own_46]; omega
theorem own_M0 {pv c0 c1 c2 c3 c4 c5 : Int32} (h : pv = 0) (h0 : own_d0 c0) (h1 : own_D c1) (h2 : own_D c2) (h3 : own_D c3) (h4 : own_D c4) (h5 : own_D c5) : own_M pv c0 c1 c2 c3 c4 c5 := ⟨⟨h0.1, h0.2.1⟩, h1.R, h2.R, h3.R, h4.R, h5.R, Or.inl ⟨h, h0.2.2, h1.n, h2.n, h3.n, h4.n, h5.n⟩⟩
theorem own_M1 {c0 c1 c2 c3 c4 c5 : Int32} (h0 : own_d0 c0) (h1 : own_D c1) (h2 : own_D c2) (h3 : own_D c3) (h4 : own_D c4) (h5 : own_D c5) : own_M 1 c0 c1 c2 c3 46 c5 := ⟨⟨h0.1, h0.2.1⟩, h1.R, h2.R, h3.R, own_R46, h5.R, Or.inr (Or.inl ⟨rfl, h0.2.2, h1.n, h2.n, h3.n, rfl⟩)⟩
theorem own_M2 {c0 c1 c2 c3 c4 c5 : Int32} (h0 : own_d0 c0) (h1 : own_D c1) (h2 : own_D c2) (h3 : own_D c3) (h4 : own_D c4) (h5 : own_D c5) : own_M 2 c0 c1 c2 46 c4 c5 := ⟨⟨h0.1, h0.2.1⟩, h1.R, h2.R, own_R46, h4.R, h5.R, Or.inr (Or.inr (Or.inl ⟨rfl, h0.2.2, h1.n, h2.n, rfl⟩))⟩
theorem own_M3 {c0 c1 c2 c3 c4 c5 : Int32} (h0 : own_d0 c0) (h1 : own_D c1) (h2 : own_D c2) (h3 : own_D c3) (h4 : own_D c4) (h5 : own_D c5) : own_M 3 c0 c1 46 c3 c4 c5 := ⟨⟨h0.1, h0.2.1⟩, h1.R, own_R46, h3.R, h4.R, h5.R, Or.inr (Or.inr (Or.inr ⟨rfl, h0.2.2, h1.n, rfl⟩))⟩
theorem own_ecc {ec up : Int32} (h : ec = if up = (0 : Int32) then (101 : Int32) else (69 : Int32)) : ec = 101 ∨ ec = 69 := by
  by_cases q : up = (0 : Int32)
  · rw [if_pos q] at h; exact Or.inl h
  · rw [if_neg q] at h; exact Or.inr h
theorem own_sgc {sg ss : Int32} (h : sg = if ss = (0 : Int32) then (43 : Int32) else (if ss = (1 : Int32) then (45 : Int32) else (48 : Int32))) : (ss = 1 ∧ sg = 45) ∨ (¬ ss = 1 ∧ (sg = 43 ∨ sg = 48)) := by
  by_cases q : ss = (0 : Int32)
  · rw [if_pos q] at h; subst q; exact Or.inr ⟨by decide, Or.inl h⟩
  · rw [if_neg q] at h
    by_cases q1 : ss = (1 : Int32)
    · rw [if_pos q1] at h; exact Or.inl ⟨q1, h⟩
    · rw [if_neg q1] at h; exact Or.inr ⟨q1, Or.inr h⟩
theorem own_nec {ec up : Int32} (h : ec = if up = (0 : Int32) then (101 : Int32) else (69 : Int32)) : nar .char ec = ec := by rcases own_ecc h with rfl | rfl <;> decide
theorem own_nsg {sg ss : Int32} (h : sg = if ss = (0 : Int32) then (43 : Int32) else (if ss = (1 : Int32) then (45 : Int32) else (48 : Int32))) : nar .char sg = sg := by rcases own_sgc h with ⟨-, rfl⟩ | ⟨-, rfl | rfl⟩ <;> decide
theorem own_nde {u v : Int64} (hu : 0 ≤ u.toInt) (hv : 1 ≤ v.toInt) : nar .char (own_dec u v) = own_dec u v := own_nch (by have := own_dcb hu hv; omega) (by have := own_dcb hu hv; omega)
theorem own_b7 {x : Int32} (h0 : 0 ≤ x.toInt) (h1 : x.toInt ≤ 127) : x.toInt8.toInt32 = x := Int32.toInt_inj.mp (by have := c_i2b x; omega)
theorem own_ch7 {x : Int32} (h0 : 0 ≤ x.toInt) (h1 : x.toInt ≤ 127) : own_ch (x.toInt8.toInt32) = x := by
  rw [own_b7 h0 h1]
  apply Int32.toInt_inj.mp
  show (x &&& (255 : Int32)).toInt = x.toInt
  rw [c_mask x (255 : Int32) 8 (by decide) (by decide)]; omega
theorem own_fd_none {f : Int32 → Int32} {b : Int32} : ∀ (n i0 : Nat), (∀ i, i < n → f (Int32.ofNat (i0 + i)) ≠ b) → own_fd f b n i0 = -1
  | 0, _, _ => rfl
  | n + 1, i0, h => by
    show (if f (Int32.ofNat i0) = b then Int32.ofNat i0 else own_fd f b n (i0 + 1)) = -1
    have h00 : ¬ f (Int32.ofNat i0) = b := h 0 (by omega)
    rw [if_neg h00]
    refine own_fd_none n (i0 + 1) fun i hi => ?_
    have q := h (i + 1) (by omega)
    rwa [show i0 + (i + 1) = i0 + 1 + i by omega] at q
theorem own_fd_hit {f : Int32 → Int32} {b : Int32} : ∀ (m n i0 : Nat), m < n → (∀ i, i < m → f (Int32.ofNat (i0 + i)) ≠ b) → f (Int32.ofNat (i0 + m)) = b → own_fd f b n i0 = Int32.ofNat (i0 + m)
  | 0, n + 1, i0, _, _, e => if_pos e
  | m + 1, n + 1, i0, hm, h, e => by
    show (if f (Int32.ofNat i0) = b then Int32.ofNat i0 else own_fd f b n (i0 + 1)) = _
    have h00 : ¬ f (Int32.ofNat i0) = b := h 0 (by omega)
    rw [if_neg h00]
    have e' : f (Int32.ofNat (i0 + 1 + m)) = b := by rwa [show i0 + 1 + m = i0 + (m + 1) by omega]
    rw [own_fd_hit m n (i0 + 1) (by omega) (fun i hi => by
      have q := h (i + 1) (by omega)
      rwa [show i0 + (i + 1) = i0 + 1 + i by omega] at q) e', show i0 + 1 + m = i0 + (m + 1) by omega]
theorem own_ne {x b : Int32} (h0 : 0 ≤ x.toInt) (h1 : x.toInt ≤ 127) (hb : b.toInt8.toInt32 = b) (n : x ≠ b) : x.toInt8.toInt32 ≠ b.toInt8.toInt32 := by rw [own_b7 h0 h1, hb]; exact n
theorem own_nt {x b : Int32} (n : x.toInt ≠ b.toInt) : x ≠ b := fun q => n (by rw [q])
def own_L (c : Int32) : Prop := 43 ≤ c.toInt ∧ c.toInt ≤ 57
theorem own_R.L {c : Int32} (h : own_R c) : own_L c := ⟨by have := h.1; omega, h.2⟩
theorem own_R.p {c : Int32} (h : own_R c) : 0 ≤ c.toInt ∧ c.toInt ≤ 127 := ⟨by have := h.1; omega, by have := h.2; omega⟩
theorem own_L.p {c : Int32} (h : own_L c) : 0 ≤ c.toInt ∧ c.toInt ≤ 127 := ⟨by have := h.1; omega, by have := h.2; omega⟩
theorem own_L.e {c : Int32} (h : own_L c) : c.toInt8.toInt32 ≠ (101 : Int32).toInt8.toInt32 := own_ne h.p.1 h.p.2 (by decide) (own_nt (by rw [show (101 : Int32).toInt = 101 from rfl]; have := h.2; omega))
theorem own_L.E {c : Int32} (h : own_L c) : c.toInt8.toInt32 ≠ (69 : Int32).toInt8.toInt32 := own_ne h.p.1 h.p.2 (by decide) (own_nt (by rw [show (69 : Int32).toInt = 69 from rfl]; have := h.2; omega))
theorem own_nd {c : Int32} (h0 : 0 ≤ c.toInt ∧ c.toInt ≤ 127) (n : c.toInt ≠ 46) : c.toInt8.toInt32 ≠ (46 : Int32).toInt8.toInt32 := own_ne h0.1 h0.2 (by decide) (own_nt (by rw [own_46]; exact n))
theorem own_sgL {sg ss : Int32} (h : sg = if ss = (0 : Int32) then (43 : Int32) else (if ss = (1 : Int32) then (45 : Int32) else (48 : Int32))) : own_L sg ∧ sg.toInt ≠ 46 := by
  unfold own_L
  rcases own_sgc h with ⟨-, rfl⟩ | ⟨-, rfl | rfl⟩ <;> decide
theorem own_deL {mg v : Int64} (hu : 0 ≤ mg.toInt) (hv : 1 ≤ v.toInt) : own_L (own_dec mg v) ∧ (own_dec mg v).toInt ≠ 46 := by
  have := own_dcb hu hv
  unfold own_L; omega
theorem own_ecp {ec up : Int32} (h : ec = if up = (0 : Int32) then (101 : Int32) else (69 : Int32)) : (0 ≤ ec.toInt ∧ ec.toInt ≤ 127) ∧ ec.toInt ≠ 46 := by rcases own_ecc h with rfl | rfl <;> decide
theorem own_dgs {c : Int32} {m : Int64} {M r : Int} (hm : m.toInt = M) (hc : c.toInt = 48 + r) (r0 : 0 ≤ r) (r9 : r ≤ 9) (M0 : 0 ≤ M) (M1 : 10 * M + r ≤ 100000000000) : (own_dg c m).toInt = if 10000000000 < 10 * M + r then 10000000000 else 10 * M + r := by
  have a1 : ¬ c < (48 : Int32) := by rw [Int32.lt_iff_toInt_lt, show (48 : Int32).toInt = 48 from rfl]; omega
  have a2 : ¬ (57 : Int32) < c := by rw [Int32.lt_iff_toInt_lt, show (57 : Int32).toInt = 57 from rfl]; omega
  unfold own_dg
  rw [if_neg a1, if_neg a2]
  have x1 := c_lmul m (10 : Int64)
  have x2 := c_ladd (m * (10 : Int64)) c.toInt64
  have x3 := c_lsub ((m * (10 : Int64)) + c.toInt64) (48 : Int64)
  have x4 := c_i2l c
  have y1 := rng64 (m * (10 : Int64))
  have y2 := rng64 ((m * (10 : Int64)) + c.toInt64)
  have y3 := rng64 (((m * (10 : Int64)) + c.toInt64) - (48 : Int64))
  rw [show (10 : Int64).toInt = 10 from rfl] at x1
  rw [show (48 : Int64).toInt = 48 from rfl] at x3
  have e : (((m * (10 : Int64)) + c.toInt64) - (48 : Int64)).toInt = 10 * M + r := by omega
  by_cases q : (10000000000 : Int64) < (((m * (10 : Int64)) + c.toInt64) - (48 : Int64))
  · rw [if_pos q]
    rw [Int64.lt_iff_toInt_lt, e, show (10000000000 : Int64).toInt = 10000000000 from rfl] at q
    rw [if_pos q]; rfl
  · rw [if_neg q, e]
    rw [Int64.lt_iff_toInt_lt, e, show (10000000000 : Int64).toInt = 10000000000 from rfl] at q
    rw [if_neg q]
theorem own_rt (x : Int64) : (x.toInt32).toInt64 = x ↔ (-2147483648 ≤ x.toInt ∧ x.toInt ≤ 2147483647) := by
  have l := c_l2i x
  have r := rng32 x.toInt32
  have i := c_i2l x.toInt32
  rw [← Int64.toInt_inj, i]
  omega
theorem own_ncs0 {args : Array Value} {s : State} {t : Term} {c : Int32} (ev : t.eval args s none [] s = some (.int c)) (h : (Jvm.Cond.not (Jvm.Cond.eq t (Jvm.Term.int (0 : Int32)))).value args s none s [] = some true) : ¬ (c = (0 : Int32)) := by
  rintro rfl
  have e := eq_i (first := s) (o := none) ev (Term.int_eval (0 : Int32)) rfl
  have q := not_v h
  rw [e] at q; cases q
theorem own_all6 {P : Nat → Prop} (h0 : P 0) (h1 : P 1) (h2 : P 2) (h3 : P 3) (h4 : P 4) (h5 : P 5) : ∀ i, i < 6 → P i
  | 0, _ => h0
  | 1, _ => h1
  | 2, _ => h2
  | 3, _ => h3
  | 4, _ => h4
  | 5, _ => h5
  | m + 6, h => absurd h (by omega)
theorem own_all19 {P : Nat → Prop} (h0 : P 0) (h1 : P 1) (h2 : P 2) (h3 : P 3) (h4 : P 4) (h5 : P 5) (h6 : P 6) (h7 : P 7) (h8 : P 8) (h9 : P 9) (h10 : P 10) (h11 : P 11) (h12 : P 12) (h13 : P 13) (h14 : P 14) (h15 : P 15) (h16 : P 16) (h17 : P 17) (h18 : P 18) : ∀ i, i < 19 → P i
  | 0, _ => h0
  | 1, _ => h1
  | 2, _ => h2
  | 3, _ => h3
  | 4, _ => h4
  | 5, _ => h5
  | 6, _ => h6
  | 7, _ => h7
  | 8, _ => h8
  | 9, _ => h9
  | 10, _ => h10
  | 11, _ => h11
  | 12, _ => h12
  | 13, _ => h13
  | 14, _ => h14
  | 15, _ => h15
  | 16, _ => h16
  | 17, _ => h17
  | 18, _ => h18
  | m + 19, h => absurd h (by omega)
theorem own_mag {mg : Int64} (h0 : 0 ≤ mg.toInt) (h1 : mg.toInt < 100000000000) : (own_dg (own_dec mg (1 : Int64)) (own_dg (own_dec mg (10 : Int64)) (own_dg (own_dec mg (100 : Int64)) (own_dg (own_dec mg (1000 : Int64)) (own_dg (own_dec mg (10000 : Int64)) (own_dg (own_dec mg (100000 : Int64)) (own_dg (own_dec mg (1000000 : Int64)) (own_dg (own_dec mg (10000000 : Int64)) (own_dg (own_dec mg (100000000 : Int64)) (own_dg (own_dec mg (1000000000 : Int64)) (own_dg (own_dec mg (10000000000 : Int64)) (0 : Int64)))))))))))).toInt = if 10000000000 < mg.toInt then 10000000000 else mg.toInt := by
  have d := fun (v : Int64) (hv : 1 ≤ v.toInt) => own_dect (u := mg) h0 hv
  have e0 : (own_dec mg (10000000000 : Int64)).toInt = 48 + (mg.toInt / 10000000000) % 10 := d (10000000000 : Int64) (by decide)
  have s0 : (own_dg (own_dec mg (10000000000 : Int64)) (0 : Int64)).toInt = mg.toInt / 10000000000 := by
    rw [own_dgs (show (0 : Int64).toInt = 0 from rfl) e0 (by omega) (by omega) (by omega) (by omega), if_neg (by omega)]; omega
  have e1 : (own_dec mg (1000000000 : Int64)).toInt = 48 + (mg.toInt / 1000000000) % 10 := d (1000000000 : Int64) (by decide)
  have s1 : (own_dg (own_dec mg (1000000000 : Int64)) (own_dg (own_dec mg (10000000000 : Int64)) (0 : Int64))).toInt = mg.toInt / 1000000000 := by
    rw [own_dgs s0 e1 (by omega) (by omega) (by omega) (by omega), if_neg (by omega)]; omega
  have e2 : (own_dec mg (100000000 : Int64)).toInt = 48 + (mg.toInt / 100000000) % 10 := d (100000000 : Int64) (by decide)
  have s2 : (own_dg (own_dec mg (100000000 : Int64)) (own_dg (own_dec mg (1000000000 : Int64)) (own_dg (own_dec mg (10000000000 : Int64)) (0 : Int64)))).toInt = mg.toInt / 100000000 := by
    rw [own_dgs s1 e2 (by omega) (by omega) (by omega) (by omega), if_neg (by omega)]; omega
  have e3 : (own_dec mg (10000000 : Int64)).toInt = 48 + (mg.toInt / 10000000) % 10 := d (10000000 : Int64) (by decide)
  have s3 : (own_dg (own_dec mg (10000000 : Int64)) (own_dg (own_dec mg (100000000 : Int64)) (own_dg (own_dec mg (1000000000 : Int64)) (own_dg (own_dec mg (10000000000 : Int64)) (0 : Int64))))).toInt = mg.toInt / 10000000 := by
    rw [own_dgs s2 e3 (by omega) (by omega) (by omega) (by omega), if_neg (by omega)]; omega
  have e4 : (own_dec mg (1000000 : Int64)).toInt = 48 + (mg.toInt / 1000000) % 10 := d (1000000 : Int64) (by decide)
  have s4 : (own_dg (own_dec mg (1000000 : Int64)) (own_dg (own_dec mg (10000000 : Int64)) (own_dg (own_dec mg (100000000 : Int64)) (own_dg (own_dec mg (1000000000 : Int64)) (own_dg (own_dec mg (10000000000 : Int64)) (0 : Int64)))))).toInt = mg.toInt / 1000000 := by
    rw [own_dgs s3 e4 (by omega) (by omega) (by omega) (by omega), if_neg (by omega)]; omega
  have e5 : (own_dec mg (100000 : Int64)).toInt = 48 + (mg.toInt / 100000) % 10 := d (100000 : Int64) (by decide)
  have s5 : (own_dg (own_dec mg (100000 : Int64)) (own_dg (own_dec mg (1000000 : Int64)) (own_dg (own_dec mg (10000000 : Int64)) (own_dg (own_dec mg (100000000 : Int64)) (own_dg (own_dec mg (1000000000 : Int64)) (own_dg (own_dec mg (10000000000 : Int64)) (0 : Int64))))))).toInt = mg.toInt / 100000 := by
    rw [own_dgs s4 e5 (by omega) (by omega) (by omega) (by omega), if_neg (by omega)]; omega
  have e6 : (own_dec mg (10000 : Int64)).toInt = 48 + (mg.toInt / 10000) % 10 := d (10000 : Int64) (by decide)
  have s6 : (own_dg (own_dec mg (10000 : Int64)) (own_dg (own_dec mg (100000 : Int64)) (own_dg (own_dec mg (1000000 : Int64)) (own_dg (own_dec mg (10000000 : Int64)) (own_dg (own_dec mg (100000000 : Int64)) (own_dg (own_dec mg (1000000000 : Int64)) (own_dg (own_dec mg (10000000000 : Int64)) (0 : Int64)))))))).toInt = mg.toInt / 10000 := by
    rw [own_dgs s5 e6 (by omega) (by omega) (by omega) (by omega), if_neg (by omega)]; omega
  have e7 : (own_dec mg (1000 : Int64)).toInt = 48 + (mg.toInt / 1000) % 10 := d (1000 : Int64) (by decide)
  have s7 : (own_dg (own_dec mg (1000 : Int64)) (own_dg (own_dec mg (10000 : Int64)) (own_dg (own_dec mg (100000 : Int64)) (own_dg (own_dec mg (1000000 : Int64)) (own_dg (own_dec mg (10000000 : Int64)) (own_dg (own_dec mg (100000000 : Int64)) (own_dg (own_dec mg (1000000000 : Int64)) (own_dg (own_dec mg (10000000000 : Int64)) (0 : Int64))))))))).toInt = mg.toInt / 1000 := by
    rw [own_dgs s6 e7 (by omega) (by omega) (by omega) (by omega), if_neg (by omega)]; omega
  have e8 : (own_dec mg (100 : Int64)).toInt = 48 + (mg.toInt / 100) % 10 := d (100 : Int64) (by decide)
  have s8 : (own_dg (own_dec mg (100 : Int64)) (own_dg (own_dec mg (1000 : Int64)) (own_dg (own_dec mg (10000 : Int64)) (own_dg (own_dec mg (100000 : Int64)) (own_dg (own_dec mg (1000000 : Int64)) (own_dg (own_dec mg (10000000 : Int64)) (own_dg (own_dec mg (100000000 : Int64)) (own_dg (own_dec mg (1000000000 : Int64)) (own_dg (own_dec mg (10000000000 : Int64)) (0 : Int64)))))))))).toInt = mg.toInt / 100 := by
    rw [own_dgs s7 e8 (by omega) (by omega) (by omega) (by omega), if_neg (by omega)]; omega
  have e9 : (own_dec mg (10 : Int64)).toInt = 48 + (mg.toInt / 10) % 10 := d (10 : Int64) (by decide)
  have s9 : (own_dg (own_dec mg (10 : Int64)) (own_dg (own_dec mg (100 : Int64)) (own_dg (own_dec mg (1000 : Int64)) (own_dg (own_dec mg (10000 : Int64)) (own_dg (own_dec mg (100000 : Int64)) (own_dg (own_dec mg (1000000 : Int64)) (own_dg (own_dec mg (10000000 : Int64)) (own_dg (own_dec mg (100000000 : Int64)) (own_dg (own_dec mg (1000000000 : Int64)) (own_dg (own_dec mg (10000000000 : Int64)) (0 : Int64))))))))))).toInt = mg.toInt / 10 := by
    rw [own_dgs s8 e9 (by omega) (by omega) (by omega) (by omega), if_neg (by omega)]; omega
  have e10 : (own_dec mg (1 : Int64)).toInt = 48 + (mg.toInt / 1) % 10 := d (1 : Int64) (by decide)
  rw [own_dgs s9 e10 (by omega) (by omega) (by omega) (by omega)]
  have z : 10 * (mg.toInt / 10) + (mg.toInt / 1) % 10 = mg.toInt := by omega
  rw [z]
theorem own_pall1 {pv m0 m1 m2 m3 m4 m5 ec sg ss up : Int32} {mg : Int64} {xs : List Int32} (hM : own_M pv m0 m1 m2 m3 m4 m5) (hmb : 0 ≤ mg.toInt ∧ mg.toInt < 100000000000) (hec : ec = if up = (0 : Int32) then (101 : Int32) else (69 : Int32)) (hsg : sg = if ss = (0 : Int32) then (43 : Int32) else (if ss = (1 : Int32) then (45 : Int32) else (48 : Int32))) (hxs : xs = [m0, m1, m2, m3, m4, m5, ec, sg, own_dec mg (10000000000 : Int64), own_dec mg (1000000000 : Int64), own_dec mg (100000000 : Int64), own_dec mg (10000000 : Int64), own_dec mg (1000000 : Int64), own_dec mg (100000 : Int64), own_dec mg (10000 : Int64), own_dec mg (1000 : Int64), own_dec mg (100 : Int64), own_dec mg (10 : Int64), own_dec mg (1 : Int64)]) : ∀ j : Int32, ¬ j < 0 ∧ j < (19 : Int32) → 0 ≤ (own_g xs j).toInt ∧ (own_g xs j).toInt ≤ 255 := by
  intro j _
  refine own_gP (P := fun x => 0 ≤ x.toInt ∧ x.toInt ≤ 255) (by decide) ?_ j
  obtain ⟨h0, h1, h2, h3, h4, h5, -⟩ := hM
  have hE := own_ecp hec
  have hS := own_sgL hsg
  subst hxs
  intro x hx
  simp only [List.mem_cons, List.not_mem_nil, or_false] at hx
  rcases hx with rfl | rfl | rfl | rfl | rfl | rfl | rfl | rfl | rfl | rfl | rfl | rfl | rfl | rfl | rfl | rfl | rfl | rfl | rfl
  · exact ⟨by have := (h0.p).1; omega, by have := (h0.p).2; omega⟩
  · exact ⟨by have := (h1.p).1; omega, by have := (h1.p).2; omega⟩
  · exact ⟨by have := (h2.p).1; omega, by have := (h2.p).2; omega⟩
  · exact ⟨by have := (h3.p).1; omega, by have := (h3.p).2; omega⟩
  · exact ⟨by have := (h4.p).1; omega, by have := (h4.p).2; omega⟩
  · exact ⟨by have := (h5.p).1; omega, by have := (h5.p).2; omega⟩
  · exact ⟨by have := (hE.1).1; omega, by have := (hE.1).2; omega⟩
  · exact ⟨by have := (hS.1.p).1; omega, by have := (hS.1.p).2; omega⟩
  · exact ⟨by have := ((own_deL hmb.1 (v := (10000000000 : Int64)) (by decide)).1.p).1; omega, by have := ((own_deL hmb.1 (v := (10000000000 : Int64)) (by decide)).1.p).2; omega⟩
  · exact ⟨by have := ((own_deL hmb.1 (v := (1000000000 : Int64)) (by decide)).1.p).1; omega, by have := ((own_deL hmb.1 (v := (1000000000 : Int64)) (by decide)).1.p).2; omega⟩
  · exact ⟨by have := ((own_deL hmb.1 (v := (100000000 : Int64)) (by decide)).1.p).1; omega, by have := ((own_deL hmb.1 (v := (100000000 : Int64)) (by decide)).1.p).2; omega⟩
  · exact ⟨by have := ((own_deL hmb.1 (v := (10000000 : Int64)) (by decide)).1.p).1; omega, by have := ((own_deL hmb.1 (v := (10000000 : Int64)) (by decide)).1.p).2; omega⟩
  · exact ⟨by have := ((own_deL hmb.1 (v := (1000000 : Int64)) (by decide)).1.p).1; omega, by have := ((own_deL hmb.1 (v := (1000000 : Int64)) (by decide)).1.p).2; omega⟩
  · exact ⟨by have := ((own_deL hmb.1 (v := (100000 : Int64)) (by decide)).1.p).1; omega, by have := ((own_deL hmb.1 (v := (100000 : Int64)) (by decide)).1.p).2; omega⟩
  · exact ⟨by have := ((own_deL hmb.1 (v := (10000 : Int64)) (by decide)).1.p).1; omega, by have := ((own_deL hmb.1 (v := (10000 : Int64)) (by decide)).1.p).2; omega⟩
  · exact ⟨by have := ((own_deL hmb.1 (v := (1000 : Int64)) (by decide)).1.p).1; omega, by have := ((own_deL hmb.1 (v := (1000 : Int64)) (by decide)).1.p).2; omega⟩
  · exact ⟨by have := ((own_deL hmb.1 (v := (100 : Int64)) (by decide)).1.p).1; omega, by have := ((own_deL hmb.1 (v := (100 : Int64)) (by decide)).1.p).2; omega⟩
  · exact ⟨by have := ((own_deL hmb.1 (v := (10 : Int64)) (by decide)).1.p).1; omega, by have := ((own_deL hmb.1 (v := (10 : Int64)) (by decide)).1.p).2; omega⟩
  · exact ⟨by have := ((own_deL hmb.1 (v := (1 : Int64)) (by decide)).1.p).1; omega, by have := ((own_deL hmb.1 (v := (1 : Int64)) (by decide)).1.p).2; omega⟩
theorem own_pall0 {pv m0 m1 m2 m3 m4 m5 : Int32} {xs : List Int32} (hM : own_M pv m0 m1 m2 m3 m4 m5) (hxs : xs = [m0, m1, m2, m3, m4, m5]) : ∀ j : Int32, ¬ j < 0 ∧ j < (6 : Int32) → 0 ≤ (own_g xs j).toInt ∧ (own_g xs j).toInt ≤ 255 := by
  intro j _
  refine own_gP (P := fun x => 0 ≤ x.toInt ∧ x.toInt ≤ 255) (by decide) ?_ j
  obtain ⟨h0, h1, h2, h3, h4, h5, -⟩ := hM
  subst hxs
  intro x hx
  simp only [List.mem_cons, List.not_mem_nil, or_false] at hx
  rcases hx with rfl | rfl | rfl | rfl | rfl | rfl
  · exact ⟨by have := (h0.p).1; omega, by have := (h0.p).2; omega⟩
  · exact ⟨by have := (h1.p).1; omega, by have := (h1.p).2; omega⟩
  · exact ⟨by have := (h2.p).1; omega, by have := (h2.p).2; omega⟩
  · exact ⟨by have := (h3.p).1; omega, by have := (h3.p).2; omega⟩
  · exact ⟨by have := (h4.p).1; omega, by have := (h4.p).2; omega⟩
  · exact ⟨by have := (h5.p).1; omega, by have := (h5.p).2; omega⟩
theorem own_mk1 {pv m0 m1 m2 m3 m4 m5 ec sg ss up : Int32} {mg : Int64} {xs : List Int32} (hM : own_M pv m0 m1 m2 m3 m4 m5) (hmb : 0 ≤ mg.toInt ∧ mg.toInt < 100000000000) (hec : ec = if up = (0 : Int32) then (101 : Int32) else (69 : Int32)) (hsg : sg = if ss = (0 : Int32) then (43 : Int32) else (if ss = (1 : Int32) then (45 : Int32) else (48 : Int32))) (hxs : xs = [m0, m1, m2, m3, m4, m5, ec, sg, own_dec mg (10000000000 : Int64), own_dec mg (1000000000 : Int64), own_dec mg (100000000 : Int64), own_dec mg (10000000 : Int64), own_dec mg (1000000 : Int64), own_dec mg (100000 : Int64), own_dec mg (10000 : Int64), own_dec mg (1000 : Int64), own_dec mg (100 : Int64), own_dec mg (10 : Int64), own_dec mg (1 : Int64)]) : own_mark (fun j => ((own_g xs) j).toInt8.toInt32) (19 : Int32) = Int32.ofNat 6 := by
  obtain ⟨h0, h1, h2, h3, h4, h5, -⟩ := hM
  have hS := (own_sgL hsg).1
  rcases own_ecc hec with hc | hc
  · subst hc
    have a : own_fd (fun j => ((own_g xs) j).toInt8.toInt32) ((101 : Int32).toInt8.toInt32) 19 0 = Int32.ofNat (0 + 6) := by
      subst hxs
      exact own_fd_hit 6 19 0 (by decide) (own_all6 h0.L.e h1.L.e h2.L.e h3.L.e h4.L.e h5.L.e) rfl
    unfold own_mark
    rw [show (19 : Int32).toNatClampNeg = 19 from rfl, a, if_neg (by decide)]
  · subst hc
    have a : own_fd (fun j => ((own_g xs) j).toInt8.toInt32) ((101 : Int32).toInt8.toInt32) 19 0 = -1 := by
      subst hxs
      exact own_fd_none 19 0 (own_all19 h0.L.e h1.L.e h2.L.e h3.L.e h4.L.e h5.L.e (own_ne (x := (69 : Int32)) (by decide) (by decide) (by decide) (by decide)) hS.e (own_deL hmb.1 (v := (10000000000 : Int64)) (by decide)).1.e (own_deL hmb.1 (v := (1000000000 : Int64)) (by decide)).1.e (own_deL hmb.1 (v := (100000000 : Int64)) (by decide)).1.e (own_deL hmb.1 (v := (10000000 : Int64)) (by decide)).1.e (own_deL hmb.1 (v := (1000000 : Int64)) (by decide)).1.e (own_deL hmb.1 (v := (100000 : Int64)) (by decide)).1.e (own_deL hmb.1 (v := (10000 : Int64)) (by decide)).1.e (own_deL hmb.1 (v := (1000 : Int64)) (by decide)).1.e (own_deL hmb.1 (v := (100 : Int64)) (by decide)).1.e (own_deL hmb.1 (v := (10 : Int64)) (by decide)).1.e (own_deL hmb.1 (v := (1 : Int64)) (by decide)).1.e)
    have b : own_fd (fun j => ((own_g xs) j).toInt8.toInt32) ((69 : Int32).toInt8.toInt32) 19 0 = Int32.ofNat (0 + 6) := by
      subst hxs
      exact own_fd_hit 6 19 0 (by decide) (own_all6 h0.L.E h1.L.E h2.L.E h3.L.E h4.L.E h5.L.E) rfl
    unfold own_mark
    rw [show (19 : Int32).toNatClampNeg = 19 from rfl, a, b, if_pos (by decide), if_neg (by decide)]
theorem own_mk0 {pv m0 m1 m2 m3 m4 m5 : Int32} {xs : List Int32} (hM : own_M pv m0 m1 m2 m3 m4 m5) (hxs : xs = [m0, m1, m2, m3, m4, m5]) : own_mark (fun j => ((own_g xs) j).toInt8.toInt32) (6 : Int32) = (6 : Int32) := by
  obtain ⟨h0, h1, h2, h3, h4, h5, -⟩ := hM
  have a : own_fd (fun j => ((own_g xs) j).toInt8.toInt32) ((101 : Int32).toInt8.toInt32) 6 0 = -1 := by
    subst hxs
    exact own_fd_none 6 0 (own_all6 h0.L.e h1.L.e h2.L.e h3.L.e h4.L.e h5.L.e)
  have b : own_fd (fun j => ((own_g xs) j).toInt8.toInt32) ((69 : Int32).toInt8.toInt32) 6 0 = -1 := by
    subst hxs
    exact own_fd_none 6 0 (own_all6 h0.L.E h1.L.E h2.L.E h3.L.E h4.L.E h5.L.E)
  unfold own_mark
  rw [show (6 : Int32).toNatClampNeg = 6 from rfl, a, b, if_pos (by decide), if_pos (by decide)]
theorem own_all2 {P : Nat → Prop} (h0 : P 0) (h1 : P 1) : ∀ i, i < 2 → P i
  | 0, _ => h0
  | 1, _ => h1
  | m + 2, h => absurd h (by omega)
theorem own_all3 {P : Nat → Prop} (h0 : P 0) (h1 : P 1) (h2 : P 2) : ∀ i, i < 3 → P i
  | 0, _ => h0
  | 1, _ => h1
  | 2, _ => h2
  | m + 3, h => absurd h (by omega)
theorem own_all4 {P : Nat → Prop} (h0 : P 0) (h1 : P 1) (h2 : P 2) (h3 : P 3) : ∀ i, i < 4 → P i
  | 0, _ => h0
  | 1, _ => h1
  | 2, _ => h2
  | 3, _ => h3
  | m + 4, h => absurd h (by omega)
theorem own_pt1 {pv m0 m1 m2 m3 m4 m5 ec sg ss up : Int32} {mg : Int64} {xs : List Int32} (hM : own_M pv m0 m1 m2 m3 m4 m5) (hmb : 0 ≤ mg.toInt ∧ mg.toInt < 100000000000) (hec : ec = if up = (0 : Int32) then (101 : Int32) else (69 : Int32)) (hsg : sg = if ss = (0 : Int32) then (43 : Int32) else (if ss = (1 : Int32) then (45 : Int32) else (48 : Int32))) (hxs : xs = [m0, m1, m2, m3, m4, m5, ec, sg, own_dec mg (10000000000 : Int64), own_dec mg (1000000000 : Int64), own_dec mg (100000000 : Int64), own_dec mg (10000000 : Int64), own_dec mg (1000000 : Int64), own_dec mg (100000 : Int64), own_dec mg (10000 : Int64), own_dec mg (1000 : Int64), own_dec mg (100 : Int64), own_dec mg (10 : Int64), own_dec mg (1 : Int64)]) : (if own_fd (fun j => ((own_g xs) j).toInt8.toInt32) ((46 : Int32).toInt8.toInt32) (19 : Int32).toNatClampNeg 0 < (0 : Int32) then (0 : Int32) else (((Int32.ofNat 6) - own_fd (fun j => ((own_g xs) j).toInt8.toInt32) ((46 : Int32).toInt8.toInt32) (19 : Int32).toNatClampNeg 0) - (1 : Int32))) = pv := by
  obtain ⟨h0, h1, h2, h3, h4, h5, hd⟩ := hM
  have hE := own_ecp hec
  have hS := own_sgL hsg
  rw [show (19 : Int32).toNatClampNeg = 19 from rfl]
  rcases hd with ⟨rfl, n0, n1, n2, n3, n4, n5⟩ | ⟨rfl, n0, n1, n2, n3, rfl⟩ | ⟨rfl, n0, n1, n2, rfl⟩ | ⟨rfl, n0, n1, rfl⟩
  · have a : own_fd (fun j => ((own_g xs) j).toInt8.toInt32) ((46 : Int32).toInt8.toInt32) 19 0 = -1 := by
      subst hxs
      exact own_fd_none 19 0 (own_all19 (own_nd h0.p n0) (own_nd h1.p n1) (own_nd h2.p n2) (own_nd h3.p n3) (own_nd h4.p n4) (own_nd h5.p n5) (own_nd hE.1 hE.2) (own_nd hS.1.p hS.2) (own_nd (own_deL hmb.1 (v := (10000000000 : Int64)) (by decide)).1.p (own_deL hmb.1 (v := (10000000000 : Int64)) (by decide)).2) (own_nd (own_deL hmb.1 (v := (1000000000 : Int64)) (by decide)).1.p (own_deL hmb.1 (v := (1000000000 : Int64)) (by decide)).2) (own_nd (own_deL hmb.1 (v := (100000000 : Int64)) (by decide)).1.p (own_deL hmb.1 (v := (100000000 : Int64)) (by decide)).2) (own_nd (own_deL hmb.1 (v := (10000000 : Int64)) (by decide)).1.p (own_deL hmb.1 (v := (10000000 : Int64)) (by decide)).2) (own_nd (own_deL hmb.1 (v := (1000000 : Int64)) (by decide)).1.p (own_deL hmb.1 (v := (1000000 : Int64)) (by decide)).2) (own_nd (own_deL hmb.1 (v := (100000 : Int64)) (by decide)).1.p (own_deL hmb.1 (v := (100000 : Int64)) (by decide)).2) (own_nd (own_deL hmb.1 (v := (10000 : Int64)) (by decide)).1.p (own_deL hmb.1 (v := (10000 : Int64)) (by decide)).2) (own_nd (own_deL hmb.1 (v := (1000 : Int64)) (by decide)).1.p (own_deL hmb.1 (v := (1000 : Int64)) (by decide)).2) (own_nd (own_deL hmb.1 (v := (100 : Int64)) (by decide)).1.p (own_deL hmb.1 (v := (100 : Int64)) (by decide)).2) (own_nd (own_deL hmb.1 (v := (10 : Int64)) (by decide)).1.p (own_deL hmb.1 (v := (10 : Int64)) (by decide)).2) (own_nd (own_deL hmb.1 (v := (1 : Int64)) (by decide)).1.p (own_deL hmb.1 (v := (1 : Int64)) (by decide)).2))
    rw [a]; decide
  · have a : own_fd (fun j => ((own_g xs) j).toInt8.toInt32) ((46 : Int32).toInt8.toInt32) 19 0 = Int32.ofNat (0 + 4) := by
      subst hxs
      exact own_fd_hit 4 19 0 (by decide) (own_all4 (own_nd h0.p n0) (own_nd h1.p n1) (own_nd h2.p n2) (own_nd h3.p n3)) rfl
    rw [a]; decide
  · have a : own_fd (fun j => ((own_g xs) j).toInt8.toInt32) ((46 : Int32).toInt8.toInt32) 19 0 = Int32.ofNat (0 + 3) := by
      subst hxs
      exact own_fd_hit 3 19 0 (by decide) (own_all3 (own_nd h0.p n0) (own_nd h1.p n1) (own_nd h2.p n2)) rfl
    rw [a]; decide
  · have a : own_fd (fun j => ((own_g xs) j).toInt8.toInt32) ((46 : Int32).toInt8.toInt32) 19 0 = Int32.ofNat (0 + 2) := by
      subst hxs
      exact own_fd_hit 2 19 0 (by decide) (own_all2 (own_nd h0.p n0) (own_nd h1.p n1)) rfl
    rw [a]; decide
theorem own_pt0 {pv m0 m1 m2 m3 m4 m5 : Int32} {xs : List Int32} (hM : own_M pv m0 m1 m2 m3 m4 m5) (hxs : xs = [m0, m1, m2, m3, m4, m5]) : (if own_fd (fun j => ((own_g xs) j).toInt8.toInt32) ((46 : Int32).toInt8.toInt32) (6 : Int32).toNatClampNeg 0 < (0 : Int32) then (0 : Int32) else (((6 : Int32) - own_fd (fun j => ((own_g xs) j).toInt8.toInt32) ((46 : Int32).toInt8.toInt32) (6 : Int32).toNatClampNeg 0) - (1 : Int32))) = pv := by
  obtain ⟨h0, h1, h2, h3, h4, h5, hd⟩ := hM
  rw [show (6 : Int32).toNatClampNeg = 6 from rfl]
  rcases hd with ⟨rfl, n0, n1, n2, n3, n4, n5⟩ | ⟨rfl, n0, n1, n2, n3, rfl⟩ | ⟨rfl, n0, n1, n2, rfl⟩ | ⟨rfl, n0, n1, rfl⟩
  · have a : own_fd (fun j => ((own_g xs) j).toInt8.toInt32) ((46 : Int32).toInt8.toInt32) 6 0 = -1 := by
      subst hxs
      exact own_fd_none 6 0 (own_all6 (own_nd h0.p n0) (own_nd h1.p n1) (own_nd h2.p n2) (own_nd h3.p n3) (own_nd h4.p n4) (own_nd h5.p n5))
    rw [a]; decide
  · have a : own_fd (fun j => ((own_g xs) j).toInt8.toInt32) ((46 : Int32).toInt8.toInt32) 6 0 = Int32.ofNat (0 + 4) := by
      subst hxs
      exact own_fd_hit 4 6 0 (by decide) (own_all4 (own_nd h0.p n0) (own_nd h1.p n1) (own_nd h2.p n2) (own_nd h3.p n3)) rfl
    rw [a]; decide
  · have a : own_fd (fun j => ((own_g xs) j).toInt8.toInt32) ((46 : Int32).toInt8.toInt32) 6 0 = Int32.ofNat (0 + 3) := by
      subst hxs
      exact own_fd_hit 3 6 0 (by decide) (own_all3 (own_nd h0.p n0) (own_nd h1.p n1) (own_nd h2.p n2)) rfl
    rw [a]; decide
  · have a : own_fd (fun j => ((own_g xs) j).toInt8.toInt32) ((46 : Int32).toInt8.toInt32) 6 0 = Int32.ofNat (0 + 2) := by
      subst hxs
      exact own_fd_hit 2 6 0 (by decide) (own_all2 (own_nd h0.p n0) (own_nd h1.p n1)) rfl
    rw [a]; decide
theorem own_fin0 {pv m0 m1 m2 m3 m4 m5 : Int32} {xs : List Int32} (hM : own_M pv m0 m1 m2 m3 m4 m5) (hxs : xs = [m0, m1, m2, m3, m4, m5]) {dd : Int64} {ex : Int32} (hdd : ((pv.toInt64) - (0 : Int64)) = dd) (hex : ex = (if dd < (-2147483648 : Int64) then (0 : Int32) else (if (2147483647 : Int64) < dd then (0 : Int32) else (1 : Int32)))) : (if ((0 : Int64).toInt32).toInt64 = (0 : Int64) then (if (((if (own_fd (fun j => ((own_g xs) j).toInt8.toInt32) ((46 : Int32).toInt8.toInt32) (6 : Int32).toNatClampNeg 0) < (0 : Int32) then (0 : Int32) else (((6 : Int32) - (own_fd (fun j => ((own_g xs) j).toInt8.toInt32) ((46 : Int32).toInt8.toInt32) (6 : Int32).toNatClampNeg 0)) - (1 : Int32))).toInt64 - (0 : Int64)).toInt32).toInt64 = ((if (own_fd (fun j => ((own_g xs) j).toInt8.toInt32) ((46 : Int32).toInt8.toInt32) (6 : Int32).toNatClampNeg 0) < (0 : Int32) then (0 : Int32) else (((6 : Int32) - (own_fd (fun j => ((own_g xs) j).toInt8.toInt32) ((46 : Int32).toInt8.toInt32) (6 : Int32).toNatClampNeg 0)) - (1 : Int32))).toInt64 - (0 : Int64)) then (1 : Int32) else (0 : Int32)) else (0 : Int32)) = ex := by
  rw [own_pt0 hM hxs, hdd, if_pos (by decide)]
  have q := own_rt dd
  rw [hex]
  by_cases a : dd < (-2147483648 : Int64)
  · rw [if_pos a]
    rw [Int64.lt_iff_toInt_lt, show (-2147483648 : Int64).toInt = -2147483648 from rfl] at a
    rw [if_neg (fun z => by have := q.mp z; omega)]
  · rw [if_neg a]
    by_cases b : (2147483647 : Int64) < dd
    · rw [if_pos b]
      rw [Int64.lt_iff_toInt_lt, show (2147483647 : Int64).toInt = 2147483647 from rfl] at b
      rw [if_neg (fun z => by have := q.mp z; omega)]
    · rw [if_neg b]
      rw [Int64.lt_iff_toInt_lt, show (-2147483648 : Int64).toInt = -2147483648 from rfl] at a
      rw [Int64.lt_iff_toInt_lt, show (2147483647 : Int64).toInt = 2147483647 from rfl] at b
      rw [if_pos (q.mpr (by omega))]
theorem own_mgv {pv m0 m1 m2 m3 m4 m5 ec sg ss up : Int32} {mg : Int64} {xs : List Int32} (hM : own_M pv m0 m1 m2 m3 m4 m5) (hmb : 0 ≤ mg.toInt ∧ mg.toInt < 100000000000) (hec : ec = if up = (0 : Int32) then (101 : Int32) else (69 : Int32)) (hsg : sg = if ss = (0 : Int32) then (43 : Int32) else (if ss = (1 : Int32) then (45 : Int32) else (48 : Int32))) (hxs : xs = [m0, m1, m2, m3, m4, m5, ec, sg, own_dec mg (10000000000 : Int64), own_dec mg (1000000000 : Int64), own_dec mg (100000000 : Int64), own_dec mg (10000000 : Int64), own_dec mg (1000000 : Int64), own_dec mg (100000 : Int64), own_dec mg (10000 : Int64), own_dec mg (1000 : Int64), own_dec mg (100 : Int64), own_dec mg (10 : Int64), own_dec mg (1 : Int64)]) : own_mg (fun j => ((own_g xs) j).toInt8.toInt32) ((19 : Int32).toNatClampNeg - (6 + 1)) (6 + 1) (0 : Int64) = (own_dg (own_dec mg (1 : Int64)) (own_dg (own_dec mg (10 : Int64)) (own_dg (own_dec mg (100 : Int64)) (own_dg (own_dec mg (1000 : Int64)) (own_dg (own_dec mg (10000 : Int64)) (own_dg (own_dec mg (100000 : Int64)) (own_dg (own_dec mg (1000000 : Int64)) (own_dg (own_dec mg (10000000 : Int64)) (own_dg (own_dec mg (100000000 : Int64)) (own_dg (own_dec mg (1000000000 : Int64)) (own_dg (own_dec mg (10000000000 : Int64)) (0 : Int64)))))))))))) := by
  have hS := own_sgL hsg
  have hz : own_dg sg (0 : Int64) = (0 : Int64) := by rcases own_sgc hsg with ⟨-, rfl⟩ | ⟨-, rfl | rfl⟩ <;> decide
  have c7 : own_ch ((fun j => ((own_g xs) j).toInt8.toInt32) (Int32.ofNat 7)) = sg := by subst hxs; exact own_ch7 hS.1.p.1 hS.1.p.2
  have c8 : own_ch ((fun j => ((own_g xs) j).toInt8.toInt32) (Int32.ofNat 8)) = own_dec mg (10000000000 : Int64) := by subst hxs; exact own_ch7 (own_deL hmb.1 (v := (10000000000 : Int64)) (by decide)).1.p.1 (own_deL hmb.1 (v := (10000000000 : Int64)) (by decide)).1.p.2
  have c9 : own_ch ((fun j => ((own_g xs) j).toInt8.toInt32) (Int32.ofNat 9)) = own_dec mg (1000000000 : Int64) := by subst hxs; exact own_ch7 (own_deL hmb.1 (v := (1000000000 : Int64)) (by decide)).1.p.1 (own_deL hmb.1 (v := (1000000000 : Int64)) (by decide)).1.p.2
  have c10 : own_ch ((fun j => ((own_g xs) j).toInt8.toInt32) (Int32.ofNat 10)) = own_dec mg (100000000 : Int64) := by subst hxs; exact own_ch7 (own_deL hmb.1 (v := (100000000 : Int64)) (by decide)).1.p.1 (own_deL hmb.1 (v := (100000000 : Int64)) (by decide)).1.p.2
  have c11 : own_ch ((fun j => ((own_g xs) j).toInt8.toInt32) (Int32.ofNat 11)) = own_dec mg (10000000 : Int64) := by subst hxs; exact own_ch7 (own_deL hmb.1 (v := (10000000 : Int64)) (by decide)).1.p.1 (own_deL hmb.1 (v := (10000000 : Int64)) (by decide)).1.p.2
  have c12 : own_ch ((fun j => ((own_g xs) j).toInt8.toInt32) (Int32.ofNat 12)) = own_dec mg (1000000 : Int64) := by subst hxs; exact own_ch7 (own_deL hmb.1 (v := (1000000 : Int64)) (by decide)).1.p.1 (own_deL hmb.1 (v := (1000000 : Int64)) (by decide)).1.p.2
  have c13 : own_ch ((fun j => ((own_g xs) j).toInt8.toInt32) (Int32.ofNat 13)) = own_dec mg (100000 : Int64) := by subst hxs; exact own_ch7 (own_deL hmb.1 (v := (100000 : Int64)) (by decide)).1.p.1 (own_deL hmb.1 (v := (100000 : Int64)) (by decide)).1.p.2
  have c14 : own_ch ((fun j => ((own_g xs) j).toInt8.toInt32) (Int32.ofNat 14)) = own_dec mg (10000 : Int64) := by subst hxs; exact own_ch7 (own_deL hmb.1 (v := (10000 : Int64)) (by decide)).1.p.1 (own_deL hmb.1 (v := (10000 : Int64)) (by decide)).1.p.2
  have c15 : own_ch ((fun j => ((own_g xs) j).toInt8.toInt32) (Int32.ofNat 15)) = own_dec mg (1000 : Int64) := by subst hxs; exact own_ch7 (own_deL hmb.1 (v := (1000 : Int64)) (by decide)).1.p.1 (own_deL hmb.1 (v := (1000 : Int64)) (by decide)).1.p.2
  have c16 : own_ch ((fun j => ((own_g xs) j).toInt8.toInt32) (Int32.ofNat 16)) = own_dec mg (100 : Int64) := by subst hxs; exact own_ch7 (own_deL hmb.1 (v := (100 : Int64)) (by decide)).1.p.1 (own_deL hmb.1 (v := (100 : Int64)) (by decide)).1.p.2
  have c17 : own_ch ((fun j => ((own_g xs) j).toInt8.toInt32) (Int32.ofNat 17)) = own_dec mg (10 : Int64) := by subst hxs; exact own_ch7 (own_deL hmb.1 (v := (10 : Int64)) (by decide)).1.p.1 (own_deL hmb.1 (v := (10 : Int64)) (by decide)).1.p.2
  have c18 : own_ch ((fun j => ((own_g xs) j).toInt8.toInt32) (Int32.ofNat 18)) = own_dec mg (1 : Int64) := by subst hxs; exact own_ch7 (own_deL hmb.1 (v := (1 : Int64)) (by decide)).1.p.1 (own_deL hmb.1 (v := (1 : Int64)) (by decide)).1.p.2
  show (own_dg (own_ch ((fun j => ((own_g xs) j).toInt8.toInt32) (Int32.ofNat 18))) (own_dg (own_ch ((fun j => ((own_g xs) j).toInt8.toInt32) (Int32.ofNat 17))) (own_dg (own_ch ((fun j => ((own_g xs) j).toInt8.toInt32) (Int32.ofNat 16))) (own_dg (own_ch ((fun j => ((own_g xs) j).toInt8.toInt32) (Int32.ofNat 15))) (own_dg (own_ch ((fun j => ((own_g xs) j).toInt8.toInt32) (Int32.ofNat 14))) (own_dg (own_ch ((fun j => ((own_g xs) j).toInt8.toInt32) (Int32.ofNat 13))) (own_dg (own_ch ((fun j => ((own_g xs) j).toInt8.toInt32) (Int32.ofNat 12))) (own_dg (own_ch ((fun j => ((own_g xs) j).toInt8.toInt32) (Int32.ofNat 11))) (own_dg (own_ch ((fun j => ((own_g xs) j).toInt8.toInt32) (Int32.ofNat 10))) (own_dg (own_ch ((fun j => ((own_g xs) j).toInt8.toInt32) (Int32.ofNat 9))) (own_dg (own_ch ((fun j => ((own_g xs) j).toInt8.toInt32) (Int32.ofNat 8))) (own_dg (own_ch ((fun j => ((own_g xs) j).toInt8.toInt32) (Int32.ofNat 7))) (0 : Int64))))))))))))) = _
  rw [c7, c8, c9, c10, c11, c12, c13, c14, c15, c16, c17, c18, hz]
theorem own_fin1 {pv m0 m1 m2 m3 m4 m5 ec sg ss up : Int32} {mg : Int64} {xs : List Int32} (hM : own_M pv m0 m1 m2 m3 m4 m5) (hmb : 0 ≤ mg.toInt ∧ mg.toInt < 100000000000) (hec : ec = if up = (0 : Int32) then (101 : Int32) else (69 : Int32)) (hsg : sg = if ss = (0 : Int32) then (43 : Int32) else (if ss = (1 : Int32) then (45 : Int32) else (48 : Int32))) (hxs : xs = [m0, m1, m2, m3, m4, m5, ec, sg, own_dec mg (10000000000 : Int64), own_dec mg (1000000000 : Int64), own_dec mg (100000000 : Int64), own_dec mg (10000000 : Int64), own_dec mg (1000000 : Int64), own_dec mg (100000 : Int64), own_dec mg (10000 : Int64), own_dec mg (1000 : Int64), own_dec mg (100 : Int64), own_dec mg (10 : Int64), own_dec mg (1 : Int64)]) {ee dd : Int64} {ex : Int32} (hee : ee = if ss = (1 : Int32) then (-mg) else mg) (hdd : ((pv.toInt64) - ee) = dd) (hex : ex = (if ee < (-2147483648 : Int64) then (0 : Int32) else (if (2147483647 : Int64) < ee then (0 : Int32) else (if dd < (-2147483648 : Int64) then (0 : Int32) else (if (2147483647 : Int64) < dd then (0 : Int32) else (1 : Int32)))))) : (if ((if (own_ch ((fun j => ((own_g xs) j).toInt8.toInt32) ((Int32.ofNat 6) + (1 : Int32)))) = (45 : Int32) then (-(own_mg (fun j => ((own_g xs) j).toInt8.toInt32) ((19 : Int32).toNatClampNeg - (6 + 1)) (6 + 1) (0 : Int64))) else (own_mg (fun j => ((own_g xs) j).toInt8.toInt32) ((19 : Int32).toNatClampNeg - (6 + 1)) (6 + 1) (0 : Int64))).toInt32).toInt64 = (if (own_ch ((fun j => ((own_g xs) j).toInt8.toInt32) ((Int32.ofNat 6) + (1 : Int32)))) = (45 : Int32) then (-(own_mg (fun j => ((own_g xs) j).toInt8.toInt32) ((19 : Int32).toNatClampNeg - (6 + 1)) (6 + 1) (0 : Int64))) else (own_mg (fun j => ((own_g xs) j).toInt8.toInt32) ((19 : Int32).toNatClampNeg - (6 + 1)) (6 + 1) (0 : Int64))) then (if (((if (own_fd (fun j => ((own_g xs) j).toInt8.toInt32) ((46 : Int32).toInt8.toInt32) (19 : Int32).toNatClampNeg 0) < (0 : Int32) then (0 : Int32) else (((Int32.ofNat 6) - (own_fd (fun j => ((own_g xs) j).toInt8.toInt32) ((46 : Int32).toInt8.toInt32) (19 : Int32).toNatClampNeg 0)) - (1 : Int32))).toInt64 - (if (own_ch ((fun j => ((own_g xs) j).toInt8.toInt32) ((Int32.ofNat 6) + (1 : Int32)))) = (45 : Int32) then (-(own_mg (fun j => ((own_g xs) j).toInt8.toInt32) ((19 : Int32).toNatClampNeg - (6 + 1)) (6 + 1) (0 : Int64))) else (own_mg (fun j => ((own_g xs) j).toInt8.toInt32) ((19 : Int32).toNatClampNeg - (6 + 1)) (6 + 1) (0 : Int64)))).toInt32).toInt64 = ((if (own_fd (fun j => ((own_g xs) j).toInt8.toInt32) ((46 : Int32).toInt8.toInt32) (19 : Int32).toNatClampNeg 0) < (0 : Int32) then (0 : Int32) else (((Int32.ofNat 6) - (own_fd (fun j => ((own_g xs) j).toInt8.toInt32) ((46 : Int32).toInt8.toInt32) (19 : Int32).toNatClampNeg 0)) - (1 : Int32))).toInt64 - (if (own_ch ((fun j => ((own_g xs) j).toInt8.toInt32) ((Int32.ofNat 6) + (1 : Int32)))) = (45 : Int32) then (-(own_mg (fun j => ((own_g xs) j).toInt8.toInt32) ((19 : Int32).toNatClampNeg - (6 + 1)) (6 + 1) (0 : Int64))) else (own_mg (fun j => ((own_g xs) j).toInt8.toInt32) ((19 : Int32).toNatClampNeg - (6 + 1)) (6 + 1) (0 : Int64)))) then (1 : Int32) else (0 : Int32)) else (0 : Int32)) = ex := by
  have hpv : 0 ≤ pv.toInt ∧ pv.toInt ≤ 3 := by
    obtain ⟨-, -, -, -, -, -, hd⟩ := hM
    rcases hd with ⟨rfl, -⟩ | ⟨rfl, -⟩ | ⟨rfl, -⟩ | ⟨rfl, -⟩ <;> decide
  have hS := own_sgL hsg
  have hc : own_ch ((fun j => ((own_g xs) j).toInt8.toInt32) (Int32.ofNat 6 + (1 : Int32))) = sg := by subst hxs; exact own_ch7 hS.1.p.1 hS.1.p.2
  rw [own_pt1 hM hmb hec hsg hxs, own_mgv hM hmb hec hsg hxs, hc]
  have hmag := own_mag hmb.1 hmb.2
  generalize (own_dg (own_dec mg (1 : Int64)) (own_dg (own_dec mg (10 : Int64)) (own_dg (own_dec mg (100 : Int64)) (own_dg (own_dec mg (1000 : Int64)) (own_dg (own_dec mg (10000 : Int64)) (own_dg (own_dec mg (100000 : Int64)) (own_dg (own_dec mg (1000000 : Int64)) (own_dg (own_dec mg (10000000 : Int64)) (own_dg (own_dec mg (100000000 : Int64)) (own_dg (own_dec mg (1000000000 : Int64)) (own_dg (own_dec mg (10000000000 : Int64)) (0 : Int64)))))))))))) = mm at *
  have hE : ∃ E : Int64, (if sg = (45 : Int32) then (-mm) else mm) = E ∧ E.toInt = if ss = (1 : Int32) then -mm.toInt else mm.toInt := by
    refine ⟨_, rfl, ?_⟩
    rcases own_sgc hsg with ⟨h1, h2⟩ | ⟨h1, h2⟩
    · rw [if_pos h2, if_pos h1]
      have := c_lneg mm
      have r := rng64 (-mm)
      split at hmag <;> omega
    · rw [if_neg (by rcases h2 with rfl | rfl <;> decide), if_neg h1]
  obtain ⟨E, e1, e2⟩ := hE
  rw [e1]
  have x1 := c_lsub pv.toInt64 E
  have x2 := c_lsub pv.toInt64 ee
  have y1 := rng64 (pv.toInt64 - E)
  have y2 := rng64 (pv.toInt64 - ee)
  have z := c_i2l pv
  have n := c_lneg mg
  have rn := rng64 (-mg)
  have he : ee.toInt = if ss = (1 : Int32) then -mg.toInt else mg.toInt := by
    rw [hee]
    by_cases q : ss = (1 : Int32)
    · rw [if_pos q, if_pos q]; omega
    · rw [if_neg q, if_neg q]
  have q1 := own_rt E
  have q2 := own_rt (pv.toInt64 - E)
  rw [hdd] at x2 y2
  have hmm : 0 ≤ mm.toInt ∧ (mm.toInt = mg.toInt ∨ (10000000000 ≤ mm.toInt ∧ mm.toInt ≤ mg.toInt ∧ 10000000000 ≤ mg.toInt)) := by
    split at hmag <;> omega
  have bE : -100000000000 ≤ E.toInt ∧ E.toInt ≤ 100000000000 := by rw [e2]; split <;> omega
  have bee : -100000000000 ≤ ee.toInt ∧ ee.toInt ≤ 100000000000 := by rw [he]; split <;> omega
  have v1 : (pv.toInt64 - E).toInt = pv.toInt - E.toInt := by omega
  have v2 : dd.toInt = pv.toInt - ee.toInt := by omega
  have hk : (-2147483648 ≤ E.toInt ∧ E.toInt ≤ 2147483647 ∧ -2147483648 ≤ (pv.toInt64 - E).toInt ∧ (pv.toInt64 - E).toInt ≤ 2147483647) ↔ (-2147483648 ≤ ee.toInt ∧ ee.toInt ≤ 2147483647 ∧ -2147483648 ≤ dd.toInt ∧ dd.toInt ≤ 2147483647) := by
    rw [v1, v2]
    clear x1 x2 y1 y2 n rn v1 v2 q1 q2
    by_cases q : ss = (1 : Int32)
    · rw [if_pos q] at e2 he
      rcases hmm with ⟨w0, w | w⟩
      · rw [e2, he, w]
      · constructor
        · intro k; omega
        · intro k; omega
    · rw [if_neg q] at e2 he
      rcases hmm with ⟨w0, w | w⟩
      · rw [e2, he, w]
      · constructor
        · intro k; omega
        · intro k; omega
  clear x1 x2 y1 y2 z n rn v1 v2 hmm bE bee hmag e2 he
  rw [hex]
  simp only [Int64.lt_iff_toInt_lt, show (-2147483648 : Int64).toInt = -2147483648 from rfl, show (2147483647 : Int64).toInt = 2147483647 from rfl, q1, q2]
  generalize E.toInt = A at *
  generalize (pv.toInt64 - E).toInt = B at *
  generalize ee.toInt = C at *
  generalize dd.toInt = D at *
  by_cases g : (-2147483648 ≤ C ∧ C ≤ 2147483647 ∧ -2147483648 ≤ D ∧ D ≤ 2147483647)
  · have g' := hk.mpr g
    rw [if_pos ⟨g'.1, g'.2.1⟩, if_pos g'.2.2, if_neg (by omega), if_neg (by omega), if_neg (by omega), if_neg (by omega)]
  · have g' := mt hk.mp g
    by_cases a : (-2147483648 ≤ A ∧ A ≤ 2147483647)
    · rw [if_pos a, if_neg (fun b => g' ⟨a.1, a.2, b⟩)]
      repeat' split
      all_goals first | rfl | (exfalso; apply g; omega)
    · rw [if_neg a]
      repeat' split
      all_goals first | rfl | (exfalso; apply g; omega)

theorem e1_0 : jD24 0 (.bipush 49, 2) ∧ jD24 2 (.iload_n 0, 1) ∧ jD24 3 (.bipush 15, 2) ∧ jD24 5 (.iand, 1) := by decide +kernel
theorem e1_6 : jD24 6 (.bipush 9, 2) ∧ jD24 8 (.irem, 1) ∧ jD24 9 (.iadd, 1) ∧ jD24 10 (.i2c, 1) := by decide +kernel
theorem d1_11 : jD24 11 (.ireturn, 1) := by decide +kernel
theorem own_pn_com_example_vestwright_vestwright_InputNumbersIsInRangePinLaw : plainName "com/example/vestwright/vestwright/InputNumbersIsInRangePinLaw" = true := by first | (simp [plainName, overriddenIn]; done) | decide +kernel
theorem own_ef_rm_nz (mM : MethodId) (x0 : Int32) : entryFrame mM #[(.int x0)] 1 = mkF mM 0 #[.val (.int x0)] [] := by first | (simp [entryFrame, mkF, argsToLocals, Value.category]; done) | rfl
def Q_rm_nz (Z : State) (p : Int32) (h0 : Heap) (n0 : Nat) (vV : Option Value) (hH : Heap) (lA : List Loc) : Prop := vV = some (.int (own_nz p)) ∧ Fr n0 lA ∧ (hH = h0)
set_option maxRecDepth 65536 in
set_option maxHeartbeats 40000000 in
theorem rm_nz (lL : Launch) (Z : State) (a0 : Array Value) (hw : own_H a0 Z) (ws : List Jvm.Cond) (p : Int32) (h0 : Heap) (n0 : Nat) (Z0 : n0 ≤ h0.size) :
    own_Met lL jy24 (Jvm.Cond.code jy24 method_3_code 1 (some .char) :: ws) jr0 #[(.int p)] Z h0 (Q_rm_nz Z p h0 n0) := by
  refine own_begin (plainFor_of_name own_pn_com_example_vestwright_vestwright_InputNumbersIsInRangePinLaw) (fun mM => own_ef_rm_nz mM p) fun pP eE sS mM below meth cC s₁ hx hby hml hZ hown hnm hre hlk X0 e0 => ?_
  have hC := @Jvm.hb _ _ hby
  have N0 := Fr.nil n0
  have K0 := Keep.refl h0 ([] : List Addr)
  refine jg s₁ mM 11 #[vI p] [(.int (((49 : Int32) + ((p &&& (15 : Int32)) % (9 : Int32))).toUInt32.toUInt16.toUInt32.toInt32))] (fun tT kK => ?_) ?_
  · refine XS.bipush X0.here hx rfl (hC e1_0.1) ?_
    refine XS.iloadN X0.here hx rfl (hC e1_0.2.1) rfl ?_
    refine XS.bipush X0.here hx rfl (hC e1_0.2.2.1) ?_
    refine XS.iand X0.here hx rfl (hC e1_0.2.2.2) rfl ?_
    refine XS.bipush X0.here hx rfl (hC e1_6.1) ?_
    refine iremM X0 hx rfl (hC e1_6.2.1) rfl (by decide) ?_
    refine XS.iadd X0.here hx rfl (hC e1_6.2.2.1) rfl ?_
    refine XS.i2c X0.here hx rfl (hC e1_6.2.2.2) rfl ?_
    exact kK
  exact own_rN X0 hx hlk hre (by simp) (hC d1_11) e0 (by decide) (by decide) ⟨by rw [own_nzc], N0, rfl⟩
theorem e2_0 : jD25 0 (.bipush 48, 2) ∧ jD25 2 (.iload_n 0, 1) ∧ jD25 3 (.bipush 15, 2) ∧ jD25 5 (.iand, 1) := by decide +kernel
theorem e2_6 : jD25 6 (.bipush 10, 2) ∧ jD25 8 (.irem, 1) ∧ jD25 9 (.iadd, 1) ∧ jD25 10 (.i2c, 1) := by decide +kernel
theorem d2_11 : jD25 11 (.ireturn, 1) := by decide +kernel
theorem own_ef_rm_dg (mM : MethodId) (x0 : Int32) : entryFrame mM #[(.int x0)] 1 = mkF mM 0 #[.val (.int x0)] [] := by first | (simp [entryFrame, mkF, argsToLocals, Value.category]; done) | rfl
def Q_rm_dg (Z : State) (p : Int32) (h0 : Heap) (n0 : Nat) (vV : Option Value) (hH : Heap) (lA : List Loc) : Prop := vV = some (.int (own_dgt p)) ∧ Fr n0 lA ∧ (hH = h0)
set_option maxRecDepth 65536 in
set_option maxHeartbeats 40000000 in
theorem rm_dg (lL : Launch) (Z : State) (a0 : Array Value) (hw : own_H a0 Z) (ws : List Jvm.Cond) (p : Int32) (h0 : Heap) (n0 : Nat) (Z0 : n0 ≤ h0.size) :
    own_Met lL jy25 (Jvm.Cond.code jy25 method_4_code 1 (some .char) :: ws) jr0 #[(.int p)] Z h0 (Q_rm_dg Z p h0 n0) := by
  refine own_begin (plainFor_of_name own_pn_com_example_vestwright_vestwright_InputNumbersIsInRangePinLaw) (fun mM => own_ef_rm_dg mM p) fun pP eE sS mM below meth cC s₁ hx hby hml hZ hown hnm hre hlk X0 e0 => ?_
  have hC := @Jvm.hb _ _ hby
  have N0 := Fr.nil n0
  have K0 := Keep.refl h0 ([] : List Addr)
  refine jg s₁ mM 11 #[vI p] [(.int (((48 : Int32) + ((p &&& (15 : Int32)) % (10 : Int32))).toUInt32.toUInt16.toUInt32.toInt32))] (fun tT kK => ?_) ?_
  · refine XS.bipush X0.here hx rfl (hC e2_0.1) ?_
    refine XS.iloadN X0.here hx rfl (hC e2_0.2.1) rfl ?_
    refine XS.bipush X0.here hx rfl (hC e2_0.2.2.1) ?_
    refine XS.iand X0.here hx rfl (hC e2_0.2.2.2) rfl ?_
    refine XS.bipush X0.here hx rfl (hC e2_6.1) ?_
    refine iremM X0 hx rfl (hC e2_6.2.1) rfl (by decide) ?_
    refine XS.iadd X0.here hx rfl (hC e2_6.2.2.1) rfl ?_
    refine XS.i2c X0.here hx rfl (hC e2_6.2.2.2) rfl ?_
    exact kK
  exact own_rN X0 hx hlk hre (by simp) (hC d2_11) e0 (by decide) (by decide) ⟨by rw [own_dgc], N0, rfl⟩
theorem e3_0 : jD26 0 (.bipush 48, 2) ∧ jD26 2 (.lload_n 0, 1) ∧ jD26 3 (.lload_n 2, 1) ∧ jD26 4 (.ldiv, 1) := by decide +kernel
theorem e3_5 : jD26 5 (.ldc2_w 45, 3) ∧ jD26 8 (.lrem, 1) ∧ jD26 9 (.l2i, 1) ∧ jD26 10 (.iadd, 1) := by decide +kernel
theorem e3_11 : jD26 11 (.i2c, 1) ∧ jD26 12 (.ireturn, 1) := by decide +kernel
theorem own_ef_rm_dc (mM : MethodId) (x0 : Int64) (x1 : Int64) : entryFrame mM #[(.long x0), (.long x1)] 4 = mkF mM 0 #[.val (.long x0), .second, .val (.long x1), .second] [] := by first | (simp [entryFrame, mkF, argsToLocals, Value.category]; done) | rfl
def Q_rm_dc (Z : State) (u : Int64) (v : Int64) (h0 : Heap) (n0 : Nat) (vV : Option Value) (hH : Heap) (lA : List Loc) : Prop := vV = some (.int (own_dec u v)) ∧ Fr n0 lA ∧ (hH = h0)
set_option maxRecDepth 65536 in
set_option maxHeartbeats 40000000 in
theorem rm_dc (lL : Launch) (Z : State) (a0 : Array Value) (hw : own_H a0 Z) (ws : List Jvm.Cond) (u : Int64) (v : Int64) (h0 : Heap) (n0 : Nat) (Z0 : n0 ≤ h0.size) (hu : 0 ≤ u.toInt) (hv : 1 ≤ v.toInt) :
    own_Met lL jy26 (Jvm.Cond.code jy26 method_5_code 4 (some .char) :: ws) jr0 #[(.long u), (.long v)] Z h0 (Q_rm_dc Z u v h0 n0) := by
  refine own_begin (plainFor_of_name own_pn_com_example_vestwright_vestwright_InputNumbersIsInRangePinLaw) (fun mM => own_ef_rm_dc mM u v) fun pP eE sS mM below meth cC s₁ hx hby hml hZ hown hnm hre hlk X0 e0 => ?_
  have hC := @Jvm.hb _ _ hby
  have N0 := Fr.nil n0
  have K0 := Keep.refl h0 ([] : List Addr)
  let ll1 : Array Slot := #[vJ u, vS, vJ v, vS]
  refine jg s₁ mM 12 ll1 [(.int (((48 : Int32) + (((u / v) % (10 : Int64)).toInt32)).toUInt32.toUInt16.toUInt32.toInt32))] (fun tT kK => ?_) ?_
  · refine XS.bipush X0.here hx rfl (hC e3_0.1) ?_
    refine XS.lloadN X0.here hx rfl (hC e3_0.2.1) rfl ?_
    refine XS.lloadN X0.here hx rfl (hC e3_0.2.2.1) rfl ?_
    refine XS.ldiv X0.here hx rfl (hC e3_0.2.2.2) rfl (own_vnz hv) ?_
    refine X0.ldc2Long hx hown (jm hZ hw 15 rfl) (g := (mkF mM 5 ll1 [(.long (u / v)), (.int (48 : Int32))])) rfl (hC e3_5.1) _ ?_
    refine own_lremM X0.here hx rfl (hC e3_5.2.1) rfl (by decide) ?_
    refine XS.l2i X0.here hx rfl (hC e3_5.2.2.1) rfl ?_
    refine XS.iadd X0.here hx rfl (hC e3_5.2.2.2) rfl ?_
    refine XS.i2c X0.here hx rfl (hC e3_11.1) rfl ?_
    exact kK
  exact own_rN X0 hx hlk hre (by simp) (hC e3_11.2) e0 (by decide) (by decide) ⟨by rw [own_dcc hu hv], N0, rfl⟩
theorem own_pd18 : parseMethodDescriptor "(JJ)C" = some ⟨[.long, .long], some .char⟩ := by decide +kernel
theorem own_pd19 : parseMethodDescriptor "([C)V" = some ⟨[(.array .char)], none⟩ := by decide +kernel
theorem own_pd20 : parseMethodDescriptor "(Ljava/lang/String;)Z" = some ⟨[(.object "java/lang/String")], some .boolean⟩ := by decide +kernel
theorem own_ef_rm0 (mM : MethodId) (x0 : Int64) (x1 : Int32) (x2 : Int32) : entryFrame mM #[(.long x0), (.int x1), (.int x2)] maxLocals = mkF mM 0 #[.val (.long x0), .second, .val (.int x1), .val (.int x2), .unset, .unset, .unset, .unset, .unset, .unset, .unset, .unset, .unset, .unset, .unset, .unset, .unset, .unset, .unset] [] := by first | (simp [entryFrame, mkF, argsToLocals, Value.category, maxLocals]; done) | rfl
def Q_rm0 (Z : State) (q1 : Int64) (p2 : Int32) (p3 : Int32) (cs : Int32) (fv : Value) (h0 : Heap) (n0 : Nat) (vV : Option Value) (hH : Heap) (lA : List Loc) : Prop := vV = some (.int (1 : Int32)) ∧ Fr n0 lA
set_option maxRecDepth 65536 in
set_option maxHeartbeats 40000000 in
theorem rm0 (lL : Launch) (Z : State) (a0 : Array Value) (hw : own_H a0 Z) (ws : List Jvm.Cond) (q1 : Int64) (p2 : Int32) (p3 : Int32) (cs : Int32) (fv : Value) (h0 : Heap) (n0 : Nat) (Z0 : n0 ≤ h0.size) (Oo : Old Z n0 h0) (Scs : Sta Z Z.heap "java/lang/String" "COMPACT_STRINGS" "Z" (.int cs)) (ncs : ¬ (cs = (0 : Int32))) (Sfv : Sta Z Z.heap "jdk/internal/util/Preconditions" "SIOOBE_FORMATTER" "Ljava/util/function/BiFunction;" fv) (rfv : fv.isRef = true) :
    own_Met lL x (Jvm.Cond.code x code maxLocals ret :: ws) room_1 #[(.long q1), (.int p2), (.int p3)] Z h0 (Q_rm0 Z q1 p2 p3 cs fv h0 n0) := by
  refine own_begin (plainFor_of_name own_pn_com_example_vestwright_vestwright_InputNumbersIsInRangePinLaw) (fun mM => own_ef_rm0 mM q1 p2 p3) fun pP eE sS mM below meth cC s₁ hx hby hml hZ hown hnm hre hlk X0 e0 => ?_
  have hC := @Jvm.hb _ _ hby
  have N0 := Fr.nil n0
  have K0 := Keep.refl h0 ([] : List Addr)
  let ll1 : Array Slot := #[vJ q1, vS, vI p2, vI p3, vU, vU, vU, vU, vU, vU, vU, vU, vU, vU, vU, vU, vU, vU, vU]
  refine jg s₁ mM 3 ll1 [(.int (p2 &&& (1 : Int32)))] (fun tT kK => ?_) ?_
  · refine XS.iloadN X0.here hx rfl (hC at_0) rfl ?_
    refine XS.iconst X0.here hx rfl (hC at_1) ?_
    refine XS.iand X0.here hx rfl (hC at_2) rfl ?_
    exact kK
  obtain ⟨he, st1_⟩ : ∃ he : Int32, ∀ tT, Steps pP.tables eE below (s₁.setTop (mkF mM 11 #[.val (.long q1), .second, .val (.int p2), .val (.int p3), .unset, .unset, .unset, .unset, .unset, .unset, .unset, .unset, .unset, .unset, .unset, .unset, .unset, .unset, .unset] [(.int he)])) tT → Steps pP.tables eE below (s₁.setTop (mkF mM 3 #[.val (.long q1), .second, .val (.int p2), .val (.int p3), .unset, .unset, .unset, .unset, .unset, .unset, .unset, .unset, .unset, .unset, .unset, .unset, .unset, .unset, .unset] [(.int (p2 &&& (1 : Int32)))])) tT := by
    by_cases hm1 : (p2 &&& (1 : Int32)) = (0 : Int32)
    · refine ⟨(0 : Int32), fun tT kK => ?_⟩
      refine XS.ifYes X0.here hx rfl (pc0 := 3) (pc' := 10) rfl (hC at_3) rfl ((if0 _ _).trans (teq (hm1 : (p2 &&& (1 : Int32)) = (0 : Int32))).1) (by decide) (by decide) ?_
      refine XS.iconst X0.here hx rfl (hC at_10) ?_
      exact kK
    · refine ⟨(1 : Int32), fun tT kK => ?_⟩
      refine XS.ifNo X0.here hx rfl (hC at_3) rfl ((if0 _ _).trans (feq (hm1 : ¬ ((p2 &&& (1 : Int32)) = (0 : Int32)))).1) ?_
      refine XS.iconst X0.here hx rfl (hC at_6) ?_
      refine XS.goto X0.here hx rfl (pc0 := 7) (pc' := 11) rfl (hC at_7) (by decide) (by decide) ?_
      exact kK
  refine own_fin st1_ ?_
  let ll2 : Array Slot := #[vJ q1, vS, vI p2, vI p3, vI he, vU, vU, vU, vU, vU, vU, vU, vU, vU, vU, vU, vU, vU, vU]
  refine jg s₁ mM 16 ll2 [(.int (p2 &&& (2 : Int32)))] (fun tT kK => ?_) ?_
  · refine XS.istore X0.here hx rfl (hC at_11) rfl (l' := ll2) rfl ?_
    refine XS.iloadN X0.here hx rfl (hC at_13) rfl ?_
    refine XS.iconst X0.here hx rfl (hC at_14) ?_
    refine XS.iand X0.here hx rfl (hC at_15) rfl ?_
    exact kK
  obtain ⟨up, st2_⟩ : ∃ up : Int32, ∀ tT, Steps pP.tables eE below (s₁.setTop (mkF mM 24 #[.val (.long q1), .second, .val (.int p2), .val (.int p3), .val (.int he), .unset, .unset, .unset, .unset, .unset, .unset, .unset, .unset, .unset, .unset, .unset, .unset, .unset, .unset] [(.int up)])) tT → Steps pP.tables eE below (s₁.setTop (mkF mM 16 #[.val (.long q1), .second, .val (.int p2), .val (.int p3), .val (.int he), .unset, .unset, .unset, .unset, .unset, .unset, .unset, .unset, .unset, .unset, .unset, .unset, .unset, .unset] [(.int (p2 &&& (2 : Int32)))])) tT := by
    by_cases hm1 : (p2 &&& (2 : Int32)) = (0 : Int32)
    · refine ⟨(0 : Int32), fun tT kK => ?_⟩
      refine XS.ifYes X0.here hx rfl (pc0 := 16) (pc' := 23) rfl (hC at_16) rfl ((if0 _ _).trans (teq (hm1 : (p2 &&& (2 : Int32)) = (0 : Int32))).1) (by decide) (by decide) ?_
      refine XS.iconst X0.here hx rfl (hC at_23) ?_
      exact kK
    · refine ⟨(1 : Int32), fun tT kK => ?_⟩
      refine XS.ifNo X0.here hx rfl (hC at_16) rfl ((if0 _ _).trans (feq (hm1 : ¬ ((p2 &&& (2 : Int32)) = (0 : Int32)))).1) ?_
      refine XS.iconst X0.here hx rfl (hC at_19) ?_
      refine XS.goto X0.here hx rfl (pc0 := 20) (pc' := 24) rfl (hC at_20) (by decide) (by decide) ?_
      exact kK
  refine own_fin st2_ ?_
  let ll3 : Array Slot := #[vJ q1, vS, vI p2, vI p3, vI he, vI up, vU, vU, vU, vU, vU, vU, vU, vU, vU, vU, vU, vU, vU]
  refine jg s₁ mM 29 ll3 [(.int (p2 &&& (4 : Int32)))] (fun tT kK => ?_) ?_
  · refine XS.istore X0.here hx rfl (hC at_24) rfl (l' := ll3) rfl ?_
    refine XS.iloadN X0.here hx rfl (hC at_26) rfl ?_
    refine XS.iconst X0.here hx rfl (hC at_27) ?_
    refine XS.iand X0.here hx rfl (hC at_28) rfl ?_
    exact kK
  obtain ⟨ng, st3_⟩ : ∃ ng : Int32, ∀ tT, Steps pP.tables eE below (s₁.setTop (mkF mM 37 #[.val (.long q1), .second, .val (.int p2), .val (.int p3), .val (.int he), .val (.int up), .unset, .unset, .unset, .unset, .unset, .unset, .unset, .unset, .unset, .unset, .unset, .unset, .unset] [(.int ng)])) tT → Steps pP.tables eE below (s₁.setTop (mkF mM 29 #[.val (.long q1), .second, .val (.int p2), .val (.int p3), .val (.int he), .val (.int up), .unset, .unset, .unset, .unset, .unset, .unset, .unset, .unset, .unset, .unset, .unset, .unset, .unset] [(.int (p2 &&& (4 : Int32)))])) tT := by
    by_cases hm1 : (p2 &&& (4 : Int32)) = (0 : Int32)
    · refine ⟨(0 : Int32), fun tT kK => ?_⟩
      refine XS.ifYes X0.here hx rfl (pc0 := 29) (pc' := 36) rfl (hC at_29) rfl ((if0 _ _).trans (teq (hm1 : (p2 &&& (4 : Int32)) = (0 : Int32))).1) (by decide) (by decide) ?_
      refine XS.iconst X0.here hx rfl (hC at_36) ?_
      exact kK
    · refine ⟨(1 : Int32), fun tT kK => ?_⟩
      refine XS.ifNo X0.here hx rfl (hC at_29) rfl ((if0 _ _).trans (feq (hm1 : ¬ ((p2 &&& (4 : Int32)) = (0 : Int32)))).1) ?_
      refine XS.iconst X0.here hx rfl (hC at_32) ?_
      refine XS.goto X0.here hx rfl (pc0 := 33) (pc' := 37) rfl (hC at_33) (by decide) (by decide) ?_
      exact kK
  refine own_fin st3_ ?_
  let ll4 : Array Slot := #[vJ q1, vS, vI p2, vI p3, vI he, vI up, vI ng, vI (((p2.toUInt32 >>> ((3 : Int32) &&& 31).toUInt32).toInt32) &&& (3 : Int32)), vU, vU, vU, vU, vU, vU, vU, vU, vU, vU, vU]
  refine jg s₁ mM 46 ll4 [] (fun tT kK => ?_) ?_
  · let ll5 : Array Slot := #[vJ q1, vS, vI p2, vI p3, vI he, vI up, vI ng, vU, vU, vU, vU, vU, vU, vU, vU, vU, vU, vU, vU]
    refine XS.istore X0.here hx rfl (hC at_37) rfl (l' := ll5) rfl ?_
    refine XS.iloadN X0.here hx rfl (hC at_39) rfl ?_
    refine XS.iconst X0.here hx rfl (hC at_40) ?_
    refine XS.iushr X0.here hx rfl (hC at_41) rfl ?_
    refine XS.iconst X0.here hx rfl (hC at_42) ?_
    refine XS.iand X0.here hx rfl (hC at_43) rfl ?_
    refine XS.istore X0.here hx rfl (hC at_44) rfl (l' := ll4) rfl ?_
    exact kK
  show own_Fin pP eE below _ (s₁.setTop (mkF mM 46 #[.val (.long q1), .second, .val (.int p2), .val (.int p3), .val (.int he), .val (.int up), .val (.int ng), .val (.int (((p2.toUInt32 >>> ((3 : Int32) &&& 31).toUInt32).toInt32) &&& (3 : Int32))), .unset, .unset, .unset, .unset, .unset, .unset, .unset, .unset, .unset, .unset, .unset] []))
  generalize hpv : (((p2.toUInt32 >>> ((3 : Int32) &&& 31).toUInt32).toInt32) &&& (3 : Int32)) = pv
  have hp4 := own_and3 ((p2.toUInt32 >>> ((3 : Int32) &&& 31).toUInt32).toInt32)
  rw [hpv] at hp4
  clear hpv
  let ll6 : Array Slot := #[vJ q1, vS, vI p2, vI p3, vI he, vI up, vI ng, vI pv, vI ((((p2.toUInt32 >>> ((5 : Int32) &&& 31).toUInt32).toInt32) &&& (65535 : Int32)) % (3 : Int32)), vU, vU, vU, vU, vU, vU, vU, vU, vU, vU]
  refine jg s₁ mM 56 ll6 [] (fun tT kK => ?_) ?_
  · refine XS.iloadN X0.here hx rfl (hC at_46) rfl ?_
    refine XS.iconst X0.here hx rfl (hC at_47) ?_
    refine XS.iushr X0.here hx rfl (hC at_48) rfl ?_
    let ll7 : Array Slot := #[vJ q1, vS, vI p2, vI p3, vI he, vI up, vI ng, vI pv, vU, vU, vU, vU, vU, vU, vU, vU, vU, vU, vU]
    refine X0.ldcInt hx hown (jm hZ hw 0 rfl) (g := (mkF mM 49 ll7 [(.int ((p2.toUInt32 >>> ((5 : Int32) &&& 31).toUInt32).toInt32))])) rfl (hC at_49) _ ?_
    refine XS.iand X0.here hx rfl (hC at_51) rfl ?_
    refine XS.iconst X0.here hx rfl (hC at_52) ?_
    refine iremM X0 hx rfl (hC at_53) rfl (by decide) ?_
    refine XS.istore X0.here hx rfl (hC at_54) rfl (l' := ll6) rfl ?_
    exact kK
  show own_Fin pP eE below _ (s₁.setTop (mkF mM 56 #[.val (.long q1), .second, .val (.int p2), .val (.int p3), .val (.int he), .val (.int up), .val (.int ng), .val (.int pv), .val (.int ((((p2.toUInt32 >>> ((5 : Int32) &&& 31).toUInt32).toInt32) &&& (65535 : Int32)) % (3 : Int32))), .unset, .unset, .unset, .unset, .unset, .unset, .unset, .unset, .unset, .unset] []))
  generalize hss : ((((p2.toUInt32 >>> ((5 : Int32) &&& 31).toUInt32).toInt32) &&& (65535 : Int32)) % (3 : Int32)) = ss
  clear hss
  let ll8 : Array Slot := #[vJ q1, vS, vI p2, vI p3, vI he, vI up, vI ng, vI pv, vI ss, vJ ((q1 &&& (9223372036854775807 : Int64)) % (100000000000 : Int64)), vS, vU, vU, vU, vU, vU, vU, vU, vU]
  refine jg s₁ mM 67 ll8 [] (fun tT kK => ?_) ?_
  · refine XS.lloadN X0.here hx rfl (hC at_56) rfl ?_
    let ll9 : Array Slot := #[vJ q1, vS, vI p2, vI p3, vI he, vI up, vI ng, vI pv, vI ss, vU, vU, vU, vU, vU, vU, vU, vU, vU, vU]
    refine X0.ldc2Long hx hown (jm hZ hw 1 rfl) (g := (mkF mM 57 ll9 [(.long q1)])) rfl (hC at_57) _ ?_
    refine XS.land X0.here hx rfl (hC at_60) rfl ?_
    refine X0.ldc2Long hx hown (jm hZ hw 2 rfl) (g := (mkF mM 61 ll9 [(.long (q1 &&& (9223372036854775807 : Int64)))])) rfl (hC at_61) _ ?_
    refine own_lremM X0.here hx rfl (hC at_64) rfl (by decide) ?_
    refine XS.lstore X0.here hx rfl (hC at_65) rfl (l' := ll8) rfl ?_
    exact kK
  show own_Fin pP eE below _ (s₁.setTop (mkF mM 67 #[.val (.long q1), .second, .val (.int p2), .val (.int p3), .val (.int he), .val (.int up), .val (.int ng), .val (.int pv), .val (.int ss), .val (.long ((q1 &&& (9223372036854775807 : Int64)) % (100000000000 : Int64))), .second, .unset, .unset, .unset, .unset, .unset, .unset, .unset, .unset] []))
  generalize hmg : ((q1 &&& (9223372036854775807 : Int64)) % (100000000000 : Int64)) = mg
  have hmb := own_mgb hmg
  let ll10 : Array Slot := #[vJ q1, vS, vI p2, vI p3, vI he, vI up, vI ng, vI pv, vI ss, vJ mg, vS, vU, vU, vU, vU, vU, vU, vU, vU]
  refine jg s₁ mM 69 ll10 [(.int (6 : Int32))] (fun tT kK => ?_) ?_
  · refine XS.bipush X0.here hx rfl (hC at_67) ?_
    exact kK
  obtain ⟨T4_, h4_, k4_, X4_, e4_, E4_, A4_, st4_⟩ := newP X0 hx hZ (jk hw 3 rfl) e0 (g := (mkF mM 69 ll10 [(.int (6 : Int32))])) rfl (hC at_69) rfl (by decide) (cap := 6) (by decide) (by decide) (by decide) (by decide)
  obtain ⟨b4_, g4_⟩ : ∃ z, z = h0.size := ⟨_, rfl⟩
  rw [← g4_] at A4_ st4_
  have sz_b4_ : h0.size ≤ b4_ := Nat.le_trans K0.1 (Nat.le_of_eq g4_.symm)
  have ge_b4_ : n0 ≤ b4_ := Nat.le_trans Z0 sz_b4_
  have fc5_ := Oo.ext E4_
  have K4_ := K0.ext E4_
  have V4_ : Arv Z h4_ b4_ k4_ .char (6 : Int32) [(.int (0 : Int32)), (.int (0 : Int32)), (.int (0 : Int32)), (.int (0 : Int32)), (.int (0 : Int32)), (.int (0 : Int32))] (.int (0 : Int32)) := (Arv.new A4_ (by decide)).pad (pad_rep [] (.int (0 : Int32)) 6)
  refine own_fin st4_ ?_
  let ll11 : Array Slot := #[vJ q1, vS, vI p2, vI p3, vI he, vI up, vI ng, vI pv, vI ss, vJ mg, vS, vR b4_, vU, vU, vU, vU, vU, vU, vU]
  refine jg T4_ mM 75 ll11 [(.int (19 : Int32))] (fun tT kK => ?_) ?_
  · refine XS.astore X4_.here hx rfl (hC at_71) rfl rfl (l' := ll11) rfl ?_
    refine XS.bipush X4_.here hx rfl (hC at_73) ?_
    exact kK
  obtain ⟨T6_, h6_, k6_, X6_, e6_, E6_, A6_, st6_⟩ := newP X4_ hx hZ (jk hw 3 rfl) e4_ (g := (mkF mM 75 ll11 [(.int (19 : Int32))])) rfl (hC at_75) rfl (by decide) (cap := 19) (by decide) (by decide) (by decide) (by decide)
  obtain ⟨b6_, g6_⟩ : ∃ z, z = h4_.size := ⟨_, rfl⟩
  rw [← g6_] at A6_ st6_
  have sz_b6_ : h0.size ≤ b6_ := Nat.le_trans K4_.1 (Nat.le_of_eq g6_.symm)
  have ge_b6_ : n0 ≤ b6_ := Nat.le_trans Z0 sz_b6_
  have ne7_ : b4_ ≠ b6_ := Nat.ne_of_lt (Nat.lt_of_lt_of_le V4_.lt (Nat.le_of_eq g6_.symm))
  have fc8_ := fc5_.ext E6_
  have fc9_ := V4_.ext E6_
  have K6_ := K4_.ext E6_
  have V6_ : Arv Z h6_ b6_ k6_ .char (19 : Int32) [(.int (0 : Int32)), (.int (0 : Int32)), (.int (0 : Int32)), (.int (0 : Int32)), (.int (0 : Int32)), (.int (0 : Int32)), (.int (0 : Int32)), (.int (0 : Int32)), (.int (0 : Int32)), (.int (0 : Int32)), (.int (0 : Int32)), (.int (0 : Int32)), (.int (0 : Int32)), (.int (0 : Int32)), (.int (0 : Int32)), (.int (0 : Int32)), (.int (0 : Int32)), (.int (0 : Int32)), (.int (0 : Int32))] (.int (0 : Int32)) := (Arv.new A6_ (by decide)).pad (pad_rep [] (.int (0 : Int32)) 19)
  refine own_fin st6_ ?_
  let ll12 : Array Slot := #[vJ q1, vS, vI p2, vI p3, vI he, vI up, vI ng, vI pv, vI ss, vJ mg, vS, vR b4_, vR b6_, vU, vU, vU, vU, vU, vU]
  refine jg T6_ mM 84 ll12 [(.int ng), (.int (0 : Int32)), (.ref b4_)] (fun tT kK => ?_) ?_
  · refine XS.astore X6_.here hx rfl (hC at_77) rfl rfl (l' := ll12) rfl ?_
    refine XS.aload X6_.here hx rfl (hC at_79) rfl rfl ?_
    refine XS.iconst X6_.here hx rfl (hC at_81) ?_
    refine XS.iload X6_.here hx rfl (hC at_82) rfl ?_
    exact kK
  have jp10_ : ∀ (c0 : Int32) (Tj10_ : State) (Lj10_ : List Loc), (own_d0 c0) → Stand pP lL eE room_1 sS mM #[(.long q1), (.int p2), (.int p3)] below meth cC Tj10_ Lj10_ 2 25 → Tj10_.heap = h6_ → Fr n0 Lj10_ → own_Fin pP eE below (own_P sS room_1 (Q_rm0 Z q1 p2 p3 cs fv h0 n0)) (Tj10_.setTop (mkF mM 96 #[.val (.long q1), .second, .val (.int p2), .val (.int p3), .val (.int he), .val (.int up), .val (.int ng), .val (.int pv), .val (.int ss), .val (.long mg), .second, .val (.ref b4_), .val (.ref b6_), .unset, .unset, .unset, .unset, .unset, .unset] [(.int c0), (.int (0 : Int32)), (.ref b4_)])) := by
    intro c0 Tj10_ Lj10_  hc0 Xj10_ ej10_  Nj10_
    obtain ⟨cl11_, Ar11_, qk11_, Sz11_, Nn11_, Hh11_, Gg11_⟩ := id fc9_
    have hin12_ : ¬ ((0 : Int32) < 0 ∨ cl11_.slots.size ≤ ((0 : Int32)).toNatClampNeg) := inb_of Sz11_ ⟨by decide, by decide⟩
    obtain ⟨T12_, h12_, X12_, e12_, W12_, st12_⟩ := stC Xj10_ hx hZ ej10_ Ar11_ (j := (0 : Int32)) hin12_ (g := (mkF mM 96 ll12 [(.int c0), (.int (0 : Int32)), (.ref b4_)])) rfl rfl (hC at_96)
    have V12_ : Arv Z h12_ b4_ k4_ .char (6 : Int32) [(.int (nar .char c0)), (.int (0 : Int32)), (.int (0 : Int32)), (.int (0 : Int32)), (.int (0 : Int32)), (.int (0 : Int32))] (.int (0 : Int32)) := Arv.set Ar11_ qk11_ Sz11_ Nn11_ Hh11_ Gg11_ (fits_nar_char _) W12_ 0 rfl (Nat.le_of_ble_eq_true rfl)
    have fc13_ := fc8_.wr W12_ ge_b4_
    have fc14_ := V6_.other W12_ (Ne.symm ne7_)
    have K12_ := K6_.wr W12_ (Or.inr sz_b4_)
    have N12_ := Fr.snoc X12_ Nj10_ ge_b4_
    refine own_fin st12_ ?_
    refine jg T12_ mM 103 ll12 [(.int ((p3.toUInt32 >>> ((4 : Int32) &&& 31).toUInt32).toInt32)), (.int (1 : Int32)), (.ref b4_)] (fun tT kK => ?_) ?_
    · refine XS.aload X12_.here hx rfl (hC at_97) rfl rfl ?_
      show Steps pP.tables eE below (T12_.setTop (mkF mM 99 ll12 [(.ref b4_)])) tT
      refine XS.iconst X12_.here hx rfl (hC at_99) ?_
      refine XS.iloadN X12_.here hx rfl (hC at_100) rfl ?_
      refine XS.iconst X12_.here hx rfl (hC at_101) ?_
      refine XS.iushr X12_.here hx rfl (hC at_102) rfl ?_
      exact kK
    refine jc X12_ hx hZ (y := jy24) hown (jk hw 4 rfl) (jk hw 5 rfl) (jk hw 6 rfl) (jk hw 7 rfl) (rm_nz lL Z a0 hw [] ((p3.toUInt32 >>> ((4 : Int32) &&& 31).toUInt32).toInt32) h12_ n0 (Nat.le_trans Z0 K12_.1) ) e12_ own_pd14 [(.int ((p3.toUInt32 >>> ((4 : Int32) &&& 31).toUInt32).toInt32))] [(.int (1 : Int32)), (.ref b4_)] (hC at_103) rfl rfl (by rw [hml]; rfl) (by decide) 2 (Nat.le_of_eq rfl) (by decide) (by decide) (by decide : 2 + 0 ≤ _) (by decide : 25 + 0 ≤ _) fun vv15_ T15_ L15_ X15_ hQ15_ => ?_
    obtain ⟨rfl, N15_q, p15__0⟩ := hQ15_
    have N15_ := Fr.app N12_ N15_q
    obtain ⟨cl16_, Ar16_, qk16_, Sz16_, Nn16_, Hh16_, Gg16_⟩ := id V12_
    have hin17_ : ¬ ((1 : Int32) < 0 ∨ cl16_.slots.size ≤ ((1 : Int32)).toNatClampNeg) := inb_of Sz16_ ⟨by decide, by decide⟩
    obtain ⟨T17_, h17_, X17_, e17_, W17_, st17_⟩ := stC X15_ hx hZ p15__0 Ar16_ (j := (1 : Int32)) hin17_ (g := (mkF mM 106 ll12 [(.int (own_nz ((p3.toUInt32 >>> ((4 : Int32) &&& 31).toUInt32).toInt32))), (.int (1 : Int32)), (.ref b4_)])) rfl rfl (hC at_106)
    have V17_ : Arv Z h17_ b4_ k4_ .char (6 : Int32) [(.int (nar .char c0)), (.int (nar .char (own_nz ((p3.toUInt32 >>> ((4 : Int32) &&& 31).toUInt32).toInt32)))), (.int (0 : Int32)), (.int (0 : Int32)), (.int (0 : Int32)), (.int (0 : Int32))] (.int (0 : Int32)) := Arv.set Ar16_ qk16_ Sz16_ Nn16_ Hh16_ Gg16_ (fits_nar_char _) W17_ 1 rfl (Nat.le_of_ble_eq_true rfl)
    have fc18_ := fc13_.wr W17_ ge_b4_
    have fc19_ := fc14_.other W17_ (Ne.symm ne7_)
    have K17_ := K12_.wr W17_ (Or.inr sz_b4_)
    have N17_ := Fr.snoc X17_ N15_ ge_b4_
    refine own_fin st17_ ?_
    refine jg T17_ mM 114 ll12 [(.int ((p3.toUInt32 >>> ((8 : Int32) &&& 31).toUInt32).toInt32)), (.int (2 : Int32)), (.ref b4_)] (fun tT kK => ?_) ?_
    · refine XS.aload X17_.here hx rfl (hC at_107) rfl rfl ?_
      refine XS.iconst X17_.here hx rfl (hC at_109) ?_
      refine XS.iloadN X17_.here hx rfl (hC at_110) rfl ?_
      refine XS.bipush X17_.here hx rfl (hC at_111) ?_
      refine XS.iushr X17_.here hx rfl (hC at_113) rfl ?_
      exact kK
    refine jc X17_ hx hZ (y := jy25) hown (jk hw 8 rfl) (jk hw 9 rfl) (jk hw 6 rfl) (jk hw 10 rfl) (rm_dg lL Z a0 hw [] ((p3.toUInt32 >>> ((8 : Int32) &&& 31).toUInt32).toInt32) h17_ n0 (Nat.le_trans Z0 K17_.1) ) e17_ own_pd14 [(.int ((p3.toUInt32 >>> ((8 : Int32) &&& 31).toUInt32).toInt32))] [(.int (2 : Int32)), (.ref b4_)] (hC at_114) rfl rfl (by rw [hml]; rfl) (by decide) 2 (Nat.le_of_eq rfl) (by decide) (by decide) (by decide : 2 + 0 ≤ _) (by decide : 25 + 0 ≤ _) fun vv20_ T20_ L20_ X20_ hQ20_ => ?_
    obtain ⟨rfl, N20_q, p20__0⟩ := hQ20_
    have N20_ := Fr.app N17_ N20_q
    obtain ⟨cl21_, Ar21_, qk21_, Sz21_, Nn21_, Hh21_, Gg21_⟩ := id V17_
    have hin22_ : ¬ ((2 : Int32) < 0 ∨ cl21_.slots.size ≤ ((2 : Int32)).toNatClampNeg) := inb_of Sz21_ ⟨by decide, by decide⟩
    obtain ⟨T22_, h22_, X22_, e22_, W22_, st22_⟩ := stC X20_ hx hZ p20__0 Ar21_ (j := (2 : Int32)) hin22_ (g := (mkF mM 117 ll12 [(.int (own_dgt ((p3.toUInt32 >>> ((8 : Int32) &&& 31).toUInt32).toInt32))), (.int (2 : Int32)), (.ref b4_)])) rfl rfl (hC at_117)
    have V22_ : Arv Z h22_ b4_ k4_ .char (6 : Int32) [(.int (nar .char c0)), (.int (nar .char (own_nz ((p3.toUInt32 >>> ((4 : Int32) &&& 31).toUInt32).toInt32)))), (.int (nar .char (own_dgt ((p3.toUInt32 >>> ((8 : Int32) &&& 31).toUInt32).toInt32)))), (.int (0 : Int32)), (.int (0 : Int32)), (.int (0 : Int32))] (.int (0 : Int32)) := Arv.set Ar21_ qk21_ Sz21_ Nn21_ Hh21_ Gg21_ (fits_nar_char _) W22_ 2 rfl (Nat.le_of_ble_eq_true rfl)
    have fc23_ := fc18_.wr W22_ ge_b4_
    have fc24_ := fc19_.other W22_ (Ne.symm ne7_)
    have K22_ := K17_.wr W22_ (Or.inr sz_b4_)
    have N22_ := Fr.snoc X22_ N20_ ge_b4_
    refine own_fin st22_ ?_
    refine jg T22_ mM 125 ll12 [(.int ((p3.toUInt32 >>> ((12 : Int32) &&& 31).toUInt32).toInt32)), (.int (3 : Int32)), (.ref b4_)] (fun tT kK => ?_) ?_
    · refine XS.aload X22_.here hx rfl (hC at_118) rfl rfl ?_
      refine XS.iconst X22_.here hx rfl (hC at_120) ?_
      refine XS.iloadN X22_.here hx rfl (hC at_121) rfl ?_
      refine XS.bipush X22_.here hx rfl (hC at_122) ?_
      refine XS.iushr X22_.here hx rfl (hC at_124) rfl ?_
      exact kK
    refine jc X22_ hx hZ (y := jy25) hown (jk hw 8 rfl) (jk hw 9 rfl) (jk hw 6 rfl) (jk hw 10 rfl) (rm_dg lL Z a0 hw [] ((p3.toUInt32 >>> ((12 : Int32) &&& 31).toUInt32).toInt32) h22_ n0 (Nat.le_trans Z0 K22_.1) ) e22_ own_pd14 [(.int ((p3.toUInt32 >>> ((12 : Int32) &&& 31).toUInt32).toInt32))] [(.int (3 : Int32)), (.ref b4_)] (hC at_125) rfl rfl (by rw [hml]; rfl) (by decide) 2 (Nat.le_of_eq rfl) (by decide) (by decide) (by decide : 2 + 0 ≤ _) (by decide : 25 + 0 ≤ _) fun vv25_ T25_ L25_ X25_ hQ25_ => ?_
    obtain ⟨rfl, N25_q, p25__0⟩ := hQ25_
    have N25_ := Fr.app N22_ N25_q
    obtain ⟨cl26_, Ar26_, qk26_, Sz26_, Nn26_, Hh26_, Gg26_⟩ := id V22_
    have hin27_ : ¬ ((3 : Int32) < 0 ∨ cl26_.slots.size ≤ ((3 : Int32)).toNatClampNeg) := inb_of Sz26_ ⟨by decide, by decide⟩
    obtain ⟨T27_, h27_, X27_, e27_, W27_, st27_⟩ := stC X25_ hx hZ p25__0 Ar26_ (j := (3 : Int32)) hin27_ (g := (mkF mM 128 ll12 [(.int (own_dgt ((p3.toUInt32 >>> ((12 : Int32) &&& 31).toUInt32).toInt32))), (.int (3 : Int32)), (.ref b4_)])) rfl rfl (hC at_128)
    have V27_ : Arv Z h27_ b4_ k4_ .char (6 : Int32) [(.int (nar .char c0)), (.int (nar .char (own_nz ((p3.toUInt32 >>> ((4 : Int32) &&& 31).toUInt32).toInt32)))), (.int (nar .char (own_dgt ((p3.toUInt32 >>> ((8 : Int32) &&& 31).toUInt32).toInt32)))), (.int (nar .char (own_dgt ((p3.toUInt32 >>> ((12 : Int32) &&& 31).toUInt32).toInt32)))), (.int (0 : Int32)), (.int (0 : Int32))] (.int (0 : Int32)) := Arv.set Ar26_ qk26_ Sz26_ Nn26_ Hh26_ Gg26_ (fits_nar_char _) W27_ 3 rfl (Nat.le_of_ble_eq_true rfl)
    have fc28_ := fc23_.wr W27_ ge_b4_
    have fc29_ := fc24_.other W27_ (Ne.symm ne7_)
    have K27_ := K22_.wr W27_ (Or.inr sz_b4_)
    have N27_ := Fr.snoc X27_ N25_ ge_b4_
    refine own_fin st27_ ?_
    refine jg T27_ mM 136 ll12 [(.int ((p3.toUInt32 >>> ((16 : Int32) &&& 31).toUInt32).toInt32)), (.int (4 : Int32)), (.ref b4_)] (fun tT kK => ?_) ?_
    · refine XS.aload X27_.here hx rfl (hC at_129) rfl rfl ?_
      refine XS.iconst X27_.here hx rfl (hC at_131) ?_
      refine XS.iloadN X27_.here hx rfl (hC at_132) rfl ?_
      refine XS.bipush X27_.here hx rfl (hC at_133) ?_
      refine XS.iushr X27_.here hx rfl (hC at_135) rfl ?_
      exact kK
    refine jc X27_ hx hZ (y := jy25) hown (jk hw 8 rfl) (jk hw 9 rfl) (jk hw 6 rfl) (jk hw 10 rfl) (rm_dg lL Z a0 hw [] ((p3.toUInt32 >>> ((16 : Int32) &&& 31).toUInt32).toInt32) h27_ n0 (Nat.le_trans Z0 K27_.1) ) e27_ own_pd14 [(.int ((p3.toUInt32 >>> ((16 : Int32) &&& 31).toUInt32).toInt32))] [(.int (4 : Int32)), (.ref b4_)] (hC at_136) rfl rfl (by rw [hml]; rfl) (by decide) 2 (Nat.le_of_eq rfl) (by decide) (by decide) (by decide : 2 + 0 ≤ _) (by decide : 25 + 0 ≤ _) fun vv30_ T30_ L30_ X30_ hQ30_ => ?_
    obtain ⟨rfl, N30_q, p30__0⟩ := hQ30_
    have N30_ := Fr.app N27_ N30_q
    obtain ⟨cl31_, Ar31_, qk31_, Sz31_, Nn31_, Hh31_, Gg31_⟩ := id V27_
    have hin32_ : ¬ ((4 : Int32) < 0 ∨ cl31_.slots.size ≤ ((4 : Int32)).toNatClampNeg) := inb_of Sz31_ ⟨by decide, by decide⟩
    obtain ⟨T32_, h32_, X32_, e32_, W32_, st32_⟩ := stC X30_ hx hZ p30__0 Ar31_ (j := (4 : Int32)) hin32_ (g := (mkF mM 139 ll12 [(.int (own_dgt ((p3.toUInt32 >>> ((16 : Int32) &&& 31).toUInt32).toInt32))), (.int (4 : Int32)), (.ref b4_)])) rfl rfl (hC at_139)
    have V32_ : Arv Z h32_ b4_ k4_ .char (6 : Int32) [(.int (nar .char c0)), (.int (nar .char (own_nz ((p3.toUInt32 >>> ((4 : Int32) &&& 31).toUInt32).toInt32)))), (.int (nar .char (own_dgt ((p3.toUInt32 >>> ((8 : Int32) &&& 31).toUInt32).toInt32)))), (.int (nar .char (own_dgt ((p3.toUInt32 >>> ((12 : Int32) &&& 31).toUInt32).toInt32)))), (.int (nar .char (own_dgt ((p3.toUInt32 >>> ((16 : Int32) &&& 31).toUInt32).toInt32)))), (.int (0 : Int32))] (.int (0 : Int32)) := Arv.set Ar31_ qk31_ Sz31_ Nn31_ Hh31_ Gg31_ (fits_nar_char _) W32_ 4 rfl (Nat.le_of_ble_eq_true rfl)
    have fc33_ := fc28_.wr W32_ ge_b4_
    have fc34_ := fc29_.other W32_ (Ne.symm ne7_)
    have K32_ := K27_.wr W32_ (Or.inr sz_b4_)
    have N32_ := Fr.snoc X32_ N30_ ge_b4_
    refine own_fin st32_ ?_
    refine jg T32_ mM 147 ll12 [(.int ((p3.toUInt32 >>> ((20 : Int32) &&& 31).toUInt32).toInt32)), (.int (5 : Int32)), (.ref b4_)] (fun tT kK => ?_) ?_
    · refine XS.aload X32_.here hx rfl (hC at_140) rfl rfl ?_
      refine XS.iconst X32_.here hx rfl (hC at_142) ?_
      refine XS.iloadN X32_.here hx rfl (hC at_143) rfl ?_
      refine XS.bipush X32_.here hx rfl (hC at_144) ?_
      refine XS.iushr X32_.here hx rfl (hC at_146) rfl ?_
      exact kK
    refine jc X32_ hx hZ (y := jy25) hown (jk hw 8 rfl) (jk hw 9 rfl) (jk hw 6 rfl) (jk hw 10 rfl) (rm_dg lL Z a0 hw [] ((p3.toUInt32 >>> ((20 : Int32) &&& 31).toUInt32).toInt32) h32_ n0 (Nat.le_trans Z0 K32_.1) ) e32_ own_pd14 [(.int ((p3.toUInt32 >>> ((20 : Int32) &&& 31).toUInt32).toInt32))] [(.int (5 : Int32)), (.ref b4_)] (hC at_147) rfl rfl (by rw [hml]; rfl) (by decide) 2 (Nat.le_of_eq rfl) (by decide) (by decide) (by decide : 2 + 0 ≤ _) (by decide : 25 + 0 ≤ _) fun vv35_ T35_ L35_ X35_ hQ35_ => ?_
    obtain ⟨rfl, N35_q, p35__0⟩ := hQ35_
    have N35_ := Fr.app N32_ N35_q
    obtain ⟨cl36_, Ar36_, qk36_, Sz36_, Nn36_, Hh36_, Gg36_⟩ := id V32_
    have hin37_ : ¬ ((5 : Int32) < 0 ∨ cl36_.slots.size ≤ ((5 : Int32)).toNatClampNeg) := inb_of Sz36_ ⟨by decide, by decide⟩
    obtain ⟨T37_, h37_, X37_, e37_, W37_, st37_⟩ := stC X35_ hx hZ p35__0 Ar36_ (j := (5 : Int32)) hin37_ (g := (mkF mM 150 ll12 [(.int (own_dgt ((p3.toUInt32 >>> ((20 : Int32) &&& 31).toUInt32).toInt32))), (.int (5 : Int32)), (.ref b4_)])) rfl rfl (hC at_150)
    have V37_ : Arv Z h37_ b4_ k4_ .char (6 : Int32) [(.int (nar .char c0)), (.int (nar .char (own_nz ((p3.toUInt32 >>> ((4 : Int32) &&& 31).toUInt32).toInt32)))), (.int (nar .char (own_dgt ((p3.toUInt32 >>> ((8 : Int32) &&& 31).toUInt32).toInt32)))), (.int (nar .char (own_dgt ((p3.toUInt32 >>> ((12 : Int32) &&& 31).toUInt32).toInt32)))), (.int (nar .char (own_dgt ((p3.toUInt32 >>> ((16 : Int32) &&& 31).toUInt32).toInt32)))), (.int (nar .char (own_dgt ((p3.toUInt32 >>> ((20 : Int32) &&& 31).toUInt32).toInt32))))] (.int (0 : Int32)) := Arv.set Ar36_ qk36_ Sz36_ Nn36_ Hh36_ Gg36_ (fits_nar_char _) W37_ 5 rfl (Nat.le_of_ble_eq_true rfl)
    have fc38_ := fc33_.wr W37_ ge_b4_
    have fc39_ := fc34_.other W37_ (Ne.symm ne7_)
    have K37_ := K32_.wr W37_ (Or.inr sz_b4_)
    have N37_ := Fr.snoc X37_ N35_ ge_b4_
    refine own_fin st37_ ?_
    have hcn := own_ncs hc0
    rw [hcn] at V37_
    obtain ⟨c1, hc1_⟩ : ∃ z, z = (own_nz ((p3.toUInt32 >>> ((4 : Int32) &&& 31).toUInt32).toInt32)) := ⟨_, rfl⟩
    have hc1 := own_dz ((p3.toUInt32 >>> ((4 : Int32) &&& 31).toUInt32).toInt32)
    rw [← hc1_] at hc1
    rw [← hc1_, own_ncd hc1] at V37_
    obtain ⟨c2, hc2_⟩ : ∃ z, z = (own_dgt ((p3.toUInt32 >>> ((8 : Int32) &&& 31).toUInt32).toInt32)) := ⟨_, rfl⟩
    have hc2 := own_dd ((p3.toUInt32 >>> ((8 : Int32) &&& 31).toUInt32).toInt32)
    rw [← hc2_] at hc2
    rw [← hc2_, own_ncd hc2] at V37_
    obtain ⟨c3, hc3_⟩ : ∃ z, z = (own_dgt ((p3.toUInt32 >>> ((12 : Int32) &&& 31).toUInt32).toInt32)) := ⟨_, rfl⟩
    have hc3 := own_dd ((p3.toUInt32 >>> ((12 : Int32) &&& 31).toUInt32).toInt32)
    rw [← hc3_] at hc3
    rw [← hc3_, own_ncd hc3] at V37_
    obtain ⟨c4, hc4_⟩ : ∃ z, z = (own_dgt ((p3.toUInt32 >>> ((16 : Int32) &&& 31).toUInt32).toInt32)) := ⟨_, rfl⟩
    have hc4 := own_dd ((p3.toUInt32 >>> ((16 : Int32) &&& 31).toUInt32).toInt32)
    rw [← hc4_] at hc4
    rw [← hc4_, own_ncd hc4] at V37_
    obtain ⟨c5, hc5_⟩ : ∃ z, z = (own_dgt ((p3.toUInt32 >>> ((20 : Int32) &&& 31).toUInt32).toInt32)) := ⟨_, rfl⟩
    have hc5 := own_dd ((p3.toUInt32 >>> ((20 : Int32) &&& 31).toUInt32).toInt32)
    rw [← hc5_] at hc5
    rw [← hc5_, own_ncd hc5] at V37_
    refine jg T37_ mM 153 ll12 [(.int pv)] (fun tT kK => ?_) ?_
    · refine XS.iload X37_.here hx rfl (hC at_151) rfl ?_
      exact kK
    have jp40_ : ∀ (m0 : Int32) (m1 : Int32) (m2 : Int32) (m3 : Int32) (m4 : Int32) (m5 : Int32) (Tj40_ : State) (Lj40_ : List Loc) (hj40_ : Heap), (own_M pv m0 m1 m2 m3 m4 m5) → Stand pP lL eE room_1 sS mM #[(.long q1), (.int p2), (.int p3)] below meth cC Tj40_ Lj40_ 2 25 → Tj40_.heap = hj40_ → Keep h0 hj40_ ([] : List Addr) → (Old Z n0 hj40_) → (Arv Z hj40_ b4_ k4_ .char (6 : Int32) [(.int m0), (.int m1), (.int m2), (.int m3), (.int m4), (.int m5)] (.int (0 : Int32))) → (Arv Z hj40_ b6_ k6_ .char (19 : Int32) [(.int (0 : Int32)), (.int (0 : Int32)), (.int (0 : Int32)), (.int (0 : Int32)), (.int (0 : Int32)), (.int (0 : Int32)), (.int (0 : Int32)), (.int (0 : Int32)), (.int (0 : Int32)), (.int (0 : Int32)), (.int (0 : Int32)), (.int (0 : Int32)), (.int (0 : Int32)), (.int (0 : Int32)), (.int (0 : Int32)), (.int (0 : Int32)), (.int (0 : Int32)), (.int (0 : Int32)), (.int (0 : Int32))] (.int (0 : Int32))) → Fr n0 Lj40_ → own_Fin pP eE below (own_P sS room_1 (Q_rm0 Z q1 p2 p3 cs fv h0 n0)) (Tj40_.setTop (mkF mM 165 #[.val (.long q1), .second, .val (.int p2), .val (.int p3), .val (.int he), .val (.int up), .val (.int ng), .val (.int pv), .val (.int ss), .val (.long mg), .second, .val (.ref b4_), .val (.ref b6_), .unset, .unset, .unset, .unset, .unset, .unset] [])) := by
      intro m0 m1 m2 m3 m4 m5 Tj40_ Lj40_ hj40_ hM Xj40_ ej40_ Kj40_ fj40__0 fj40__1 fj40__2 Nj40_
      refine jg Tj40_ mM 171 ll12 [(.int (0 : Int32)), (.ref b4_), (.int (0 : Int32)), (.ref b6_)] (fun tT kK => ?_) ?_
      · refine XS.aload Xj40_.here hx rfl (hC at_165) rfl rfl ?_
        refine XS.iconst Xj40_.here hx rfl (hC at_167) ?_
        refine XS.aload Xj40_.here hx rfl (hC at_168) rfl rfl ?_
        refine XS.iconst Xj40_.here hx rfl (hC at_170) ?_
        exact kK
      obtain ⟨cl41_, Ar41_, qk41_, Sz41_, Nn41_, Hh41_, Gg41_⟩ := id fj40__1
      have hin42_ : ¬ ((0 : Int32) < 0 ∨ cl41_.slots.size ≤ ((0 : Int32)).toNatClampNeg) := inb_of Sz41_ ⟨by decide, by decide⟩
      have hat42_ : cl41_.slots[((0 : Int32)).toNatClampNeg]? = some (.int m0) := Hh41_.at hin42_ rfl
      refine jg Tj40_ mM 172 ll12 [(.int m0), (.int (0 : Int32)), (.ref b6_)] (fun tT kK => ?_) ?_
      · refine Xj40_.caload hx (j := (0 : Int32)) (v := (.int m0)) (own_rw ej40_ Ar41_.1) (State.isArrayOf_alike hZ.alike Ar41_.2.1) Ar41_.2.2 hin42_ hat42_ (g := (mkF mM 171 ll12 [(.int (0 : Int32)), (.ref b4_), (.int (0 : Int32)), (.ref b6_)])) rfl rfl (hC at_171) _ ?_
        exact kK
      obtain ⟨cl43_, Ar43_, qk43_, Sz43_, Nn43_, Hh43_, Gg43_⟩ := id fj40__2
      have hin44_ : ¬ ((0 : Int32) < 0 ∨ cl43_.slots.size ≤ ((0 : Int32)).toNatClampNeg) := inb_of Sz43_ ⟨by decide, by decide⟩
      obtain ⟨T44_, h44_, X44_, e44_, W44_, st44_⟩ := stC Xj40_ hx hZ ej40_ Ar43_ (j := (0 : Int32)) hin44_ (g := (mkF mM 172 ll12 [(.int m0), (.int (0 : Int32)), (.ref b6_)])) rfl rfl (hC at_172)
      have V44_ : Arv Z h44_ b6_ k6_ .char (19 : Int32) [(.int (nar .char m0)), (.int (0 : Int32)), (.int (0 : Int32)), (.int (0 : Int32)), (.int (0 : Int32)), (.int (0 : Int32)), (.int (0 : Int32)), (.int (0 : Int32)), (.int (0 : Int32)), (.int (0 : Int32)), (.int (0 : Int32)), (.int (0 : Int32)), (.int (0 : Int32)), (.int (0 : Int32)), (.int (0 : Int32)), (.int (0 : Int32)), (.int (0 : Int32)), (.int (0 : Int32)), (.int (0 : Int32))] (.int (0 : Int32)) := Arv.set Ar43_ qk43_ Sz43_ Nn43_ Hh43_ Gg43_ (fits_nar_char _) W44_ 0 rfl (Nat.le_of_ble_eq_true rfl)
      have fc45_ := fj40__0.wr W44_ ge_b6_
      have fc46_ := fj40__1.other W44_ ne7_
      have K44_ := Kj40_.wr W44_ (Or.inr sz_b6_)
      have N44_ := Fr.snoc X44_ Nj40_ ge_b6_
      refine own_fin st44_ ?_
      refine jg T44_ mM 179 ll12 [(.int (1 : Int32)), (.ref b4_), (.int (1 : Int32)), (.ref b6_)] (fun tT kK => ?_) ?_
      · refine XS.aload X44_.here hx rfl (hC at_173) rfl rfl ?_
        refine XS.iconst X44_.here hx rfl (hC at_175) ?_
        refine XS.aload X44_.here hx rfl (hC at_176) rfl rfl ?_
        refine XS.iconst X44_.here hx rfl (hC at_178) ?_
        exact kK
      obtain ⟨cl47_, Ar47_, qk47_, Sz47_, Nn47_, Hh47_, Gg47_⟩ := id fc46_
      have hin48_ : ¬ ((1 : Int32) < 0 ∨ cl47_.slots.size ≤ ((1 : Int32)).toNatClampNeg) := inb_of Sz47_ ⟨by decide, by decide⟩
      have hat48_ : cl47_.slots[((1 : Int32)).toNatClampNeg]? = some (.int m1) := Hh47_.at hin48_ rfl
      refine jg T44_ mM 180 ll12 [(.int m1), (.int (1 : Int32)), (.ref b6_)] (fun tT kK => ?_) ?_
      · refine X44_.caload hx (j := (1 : Int32)) (v := (.int m1)) (own_rw e44_ Ar47_.1) (State.isArrayOf_alike hZ.alike Ar47_.2.1) Ar47_.2.2 hin48_ hat48_ (g := (mkF mM 179 ll12 [(.int (1 : Int32)), (.ref b4_), (.int (1 : Int32)), (.ref b6_)])) rfl rfl (hC at_179) _ ?_
        exact kK
      obtain ⟨cl49_, Ar49_, qk49_, Sz49_, Nn49_, Hh49_, Gg49_⟩ := id V44_
      have hin50_ : ¬ ((1 : Int32) < 0 ∨ cl49_.slots.size ≤ ((1 : Int32)).toNatClampNeg) := inb_of Sz49_ ⟨by decide, by decide⟩
      obtain ⟨T50_, h50_, X50_, e50_, W50_, st50_⟩ := stC X44_ hx hZ e44_ Ar49_ (j := (1 : Int32)) hin50_ (g := (mkF mM 180 ll12 [(.int m1), (.int (1 : Int32)), (.ref b6_)])) rfl rfl (hC at_180)
      have V50_ : Arv Z h50_ b6_ k6_ .char (19 : Int32) [(.int (nar .char m0)), (.int (nar .char m1)), (.int (0 : Int32)), (.int (0 : Int32)), (.int (0 : Int32)), (.int (0 : Int32)), (.int (0 : Int32)), (.int (0 : Int32)), (.int (0 : Int32)), (.int (0 : Int32)), (.int (0 : Int32)), (.int (0 : Int32)), (.int (0 : Int32)), (.int (0 : Int32)), (.int (0 : Int32)), (.int (0 : Int32)), (.int (0 : Int32)), (.int (0 : Int32)), (.int (0 : Int32))] (.int (0 : Int32)) := Arv.set Ar49_ qk49_ Sz49_ Nn49_ Hh49_ Gg49_ (fits_nar_char _) W50_ 1 rfl (Nat.le_of_ble_eq_true rfl)
      have fc51_ := fc45_.wr W50_ ge_b6_
      have fc52_ := fc46_.other W50_ ne7_
      have K50_ := K44_.wr W50_ (Or.inr sz_b6_)
      have N50_ := Fr.snoc X50_ N44_ ge_b6_
      refine own_fin st50_ ?_
      refine jg T50_ mM 187 ll12 [(.int (2 : Int32)), (.ref b4_), (.int (2 : Int32)), (.ref b6_)] (fun tT kK => ?_) ?_
      · refine XS.aload X50_.here hx rfl (hC at_181) rfl rfl ?_
        refine XS.iconst X50_.here hx rfl (hC at_183) ?_
        refine XS.aload X50_.here hx rfl (hC at_184) rfl rfl ?_
        refine XS.iconst X50_.here hx rfl (hC at_186) ?_
        exact kK
      obtain ⟨cl53_, Ar53_, qk53_, Sz53_, Nn53_, Hh53_, Gg53_⟩ := id fc52_
      have hin54_ : ¬ ((2 : Int32) < 0 ∨ cl53_.slots.size ≤ ((2 : Int32)).toNatClampNeg) := inb_of Sz53_ ⟨by decide, by decide⟩
      have hat54_ : cl53_.slots[((2 : Int32)).toNatClampNeg]? = some (.int m2) := Hh53_.at hin54_ rfl
      refine jg T50_ mM 188 ll12 [(.int m2), (.int (2 : Int32)), (.ref b6_)] (fun tT kK => ?_) ?_
      · refine X50_.caload hx (j := (2 : Int32)) (v := (.int m2)) (own_rw e50_ Ar53_.1) (State.isArrayOf_alike hZ.alike Ar53_.2.1) Ar53_.2.2 hin54_ hat54_ (g := (mkF mM 187 ll12 [(.int (2 : Int32)), (.ref b4_), (.int (2 : Int32)), (.ref b6_)])) rfl rfl (hC at_187) _ ?_
        exact kK
      obtain ⟨cl55_, Ar55_, qk55_, Sz55_, Nn55_, Hh55_, Gg55_⟩ := id V50_
      have hin56_ : ¬ ((2 : Int32) < 0 ∨ cl55_.slots.size ≤ ((2 : Int32)).toNatClampNeg) := inb_of Sz55_ ⟨by decide, by decide⟩
      obtain ⟨T56_, h56_, X56_, e56_, W56_, st56_⟩ := stC X50_ hx hZ e50_ Ar55_ (j := (2 : Int32)) hin56_ (g := (mkF mM 188 ll12 [(.int m2), (.int (2 : Int32)), (.ref b6_)])) rfl rfl (hC at_188)
      have V56_ : Arv Z h56_ b6_ k6_ .char (19 : Int32) [(.int (nar .char m0)), (.int (nar .char m1)), (.int (nar .char m2)), (.int (0 : Int32)), (.int (0 : Int32)), (.int (0 : Int32)), (.int (0 : Int32)), (.int (0 : Int32)), (.int (0 : Int32)), (.int (0 : Int32)), (.int (0 : Int32)), (.int (0 : Int32)), (.int (0 : Int32)), (.int (0 : Int32)), (.int (0 : Int32)), (.int (0 : Int32)), (.int (0 : Int32)), (.int (0 : Int32)), (.int (0 : Int32))] (.int (0 : Int32)) := Arv.set Ar55_ qk55_ Sz55_ Nn55_ Hh55_ Gg55_ (fits_nar_char _) W56_ 2 rfl (Nat.le_of_ble_eq_true rfl)
      have fc57_ := fc51_.wr W56_ ge_b6_
      have fc58_ := fc52_.other W56_ ne7_
      have K56_ := K50_.wr W56_ (Or.inr sz_b6_)
      have N56_ := Fr.snoc X56_ N50_ ge_b6_
      refine own_fin st56_ ?_
      refine jg T56_ mM 195 ll12 [(.int (3 : Int32)), (.ref b4_), (.int (3 : Int32)), (.ref b6_)] (fun tT kK => ?_) ?_
      · refine XS.aload X56_.here hx rfl (hC at_189) rfl rfl ?_
        refine XS.iconst X56_.here hx rfl (hC at_191) ?_
        refine XS.aload X56_.here hx rfl (hC at_192) rfl rfl ?_
        refine XS.iconst X56_.here hx rfl (hC at_194) ?_
        exact kK
      obtain ⟨cl59_, Ar59_, qk59_, Sz59_, Nn59_, Hh59_, Gg59_⟩ := id fc58_
      have hin60_ : ¬ ((3 : Int32) < 0 ∨ cl59_.slots.size ≤ ((3 : Int32)).toNatClampNeg) := inb_of Sz59_ ⟨by decide, by decide⟩
      have hat60_ : cl59_.slots[((3 : Int32)).toNatClampNeg]? = some (.int m3) := Hh59_.at hin60_ rfl
      refine jg T56_ mM 196 ll12 [(.int m3), (.int (3 : Int32)), (.ref b6_)] (fun tT kK => ?_) ?_
      · refine X56_.caload hx (j := (3 : Int32)) (v := (.int m3)) (own_rw e56_ Ar59_.1) (State.isArrayOf_alike hZ.alike Ar59_.2.1) Ar59_.2.2 hin60_ hat60_ (g := (mkF mM 195 ll12 [(.int (3 : Int32)), (.ref b4_), (.int (3 : Int32)), (.ref b6_)])) rfl rfl (hC at_195) _ ?_
        exact kK
      obtain ⟨cl61_, Ar61_, qk61_, Sz61_, Nn61_, Hh61_, Gg61_⟩ := id V56_
      have hin62_ : ¬ ((3 : Int32) < 0 ∨ cl61_.slots.size ≤ ((3 : Int32)).toNatClampNeg) := inb_of Sz61_ ⟨by decide, by decide⟩
      obtain ⟨T62_, h62_, X62_, e62_, W62_, st62_⟩ := stC X56_ hx hZ e56_ Ar61_ (j := (3 : Int32)) hin62_ (g := (mkF mM 196 ll12 [(.int m3), (.int (3 : Int32)), (.ref b6_)])) rfl rfl (hC at_196)
      have V62_ : Arv Z h62_ b6_ k6_ .char (19 : Int32) [(.int (nar .char m0)), (.int (nar .char m1)), (.int (nar .char m2)), (.int (nar .char m3)), (.int (0 : Int32)), (.int (0 : Int32)), (.int (0 : Int32)), (.int (0 : Int32)), (.int (0 : Int32)), (.int (0 : Int32)), (.int (0 : Int32)), (.int (0 : Int32)), (.int (0 : Int32)), (.int (0 : Int32)), (.int (0 : Int32)), (.int (0 : Int32)), (.int (0 : Int32)), (.int (0 : Int32)), (.int (0 : Int32))] (.int (0 : Int32)) := Arv.set Ar61_ qk61_ Sz61_ Nn61_ Hh61_ Gg61_ (fits_nar_char _) W62_ 3 rfl (Nat.le_of_ble_eq_true rfl)
      have fc63_ := fc57_.wr W62_ ge_b6_
      have fc64_ := fc58_.other W62_ ne7_
      have K62_ := K56_.wr W62_ (Or.inr sz_b6_)
      have N62_ := Fr.snoc X62_ N56_ ge_b6_
      refine own_fin st62_ ?_
      refine jg T62_ mM 203 ll12 [(.int (4 : Int32)), (.ref b4_), (.int (4 : Int32)), (.ref b6_)] (fun tT kK => ?_) ?_
      · refine XS.aload X62_.here hx rfl (hC at_197) rfl rfl ?_
        refine XS.iconst X62_.here hx rfl (hC at_199) ?_
        refine XS.aload X62_.here hx rfl (hC at_200) rfl rfl ?_
        refine XS.iconst X62_.here hx rfl (hC at_202) ?_
        exact kK
      obtain ⟨cl65_, Ar65_, qk65_, Sz65_, Nn65_, Hh65_, Gg65_⟩ := id fc64_
      have hin66_ : ¬ ((4 : Int32) < 0 ∨ cl65_.slots.size ≤ ((4 : Int32)).toNatClampNeg) := inb_of Sz65_ ⟨by decide, by decide⟩
      have hat66_ : cl65_.slots[((4 : Int32)).toNatClampNeg]? = some (.int m4) := Hh65_.at hin66_ rfl
      refine jg T62_ mM 204 ll12 [(.int m4), (.int (4 : Int32)), (.ref b6_)] (fun tT kK => ?_) ?_
      · refine X62_.caload hx (j := (4 : Int32)) (v := (.int m4)) (own_rw e62_ Ar65_.1) (State.isArrayOf_alike hZ.alike Ar65_.2.1) Ar65_.2.2 hin66_ hat66_ (g := (mkF mM 203 ll12 [(.int (4 : Int32)), (.ref b4_), (.int (4 : Int32)), (.ref b6_)])) rfl rfl (hC at_203) _ ?_
        exact kK
      obtain ⟨cl67_, Ar67_, qk67_, Sz67_, Nn67_, Hh67_, Gg67_⟩ := id V62_
      have hin68_ : ¬ ((4 : Int32) < 0 ∨ cl67_.slots.size ≤ ((4 : Int32)).toNatClampNeg) := inb_of Sz67_ ⟨by decide, by decide⟩
      obtain ⟨T68_, h68_, X68_, e68_, W68_, st68_⟩ := stC X62_ hx hZ e62_ Ar67_ (j := (4 : Int32)) hin68_ (g := (mkF mM 204 ll12 [(.int m4), (.int (4 : Int32)), (.ref b6_)])) rfl rfl (hC at_204)
      have V68_ : Arv Z h68_ b6_ k6_ .char (19 : Int32) [(.int (nar .char m0)), (.int (nar .char m1)), (.int (nar .char m2)), (.int (nar .char m3)), (.int (nar .char m4)), (.int (0 : Int32)), (.int (0 : Int32)), (.int (0 : Int32)), (.int (0 : Int32)), (.int (0 : Int32)), (.int (0 : Int32)), (.int (0 : Int32)), (.int (0 : Int32)), (.int (0 : Int32)), (.int (0 : Int32)), (.int (0 : Int32)), (.int (0 : Int32)), (.int (0 : Int32)), (.int (0 : Int32))] (.int (0 : Int32)) := Arv.set Ar67_ qk67_ Sz67_ Nn67_ Hh67_ Gg67_ (fits_nar_char _) W68_ 4 rfl (Nat.le_of_ble_eq_true rfl)
      have fc69_ := fc63_.wr W68_ ge_b6_
      have fc70_ := fc64_.other W68_ ne7_
      have K68_ := K62_.wr W68_ (Or.inr sz_b6_)
      have N68_ := Fr.snoc X68_ N62_ ge_b6_
      refine own_fin st68_ ?_
      refine jg T68_ mM 211 ll12 [(.int (5 : Int32)), (.ref b4_), (.int (5 : Int32)), (.ref b6_)] (fun tT kK => ?_) ?_
      · refine XS.aload X68_.here hx rfl (hC at_205) rfl rfl ?_
        refine XS.iconst X68_.here hx rfl (hC at_207) ?_
        refine XS.aload X68_.here hx rfl (hC at_208) rfl rfl ?_
        refine XS.iconst X68_.here hx rfl (hC at_210) ?_
        exact kK
      obtain ⟨cl71_, Ar71_, qk71_, Sz71_, Nn71_, Hh71_, Gg71_⟩ := id fc70_
      have hin72_ : ¬ ((5 : Int32) < 0 ∨ cl71_.slots.size ≤ ((5 : Int32)).toNatClampNeg) := inb_of Sz71_ ⟨by decide, by decide⟩
      have hat72_ : cl71_.slots[((5 : Int32)).toNatClampNeg]? = some (.int m5) := Hh71_.at hin72_ rfl
      refine jg T68_ mM 212 ll12 [(.int m5), (.int (5 : Int32)), (.ref b6_)] (fun tT kK => ?_) ?_
      · refine X68_.caload hx (j := (5 : Int32)) (v := (.int m5)) (own_rw e68_ Ar71_.1) (State.isArrayOf_alike hZ.alike Ar71_.2.1) Ar71_.2.2 hin72_ hat72_ (g := (mkF mM 211 ll12 [(.int (5 : Int32)), (.ref b4_), (.int (5 : Int32)), (.ref b6_)])) rfl rfl (hC at_211) _ ?_
        exact kK
      obtain ⟨cl73_, Ar73_, qk73_, Sz73_, Nn73_, Hh73_, Gg73_⟩ := id V68_
      have hin74_ : ¬ ((5 : Int32) < 0 ∨ cl73_.slots.size ≤ ((5 : Int32)).toNatClampNeg) := inb_of Sz73_ ⟨by decide, by decide⟩
      obtain ⟨T74_, h74_, X74_, e74_, W74_, st74_⟩ := stC X68_ hx hZ e68_ Ar73_ (j := (5 : Int32)) hin74_ (g := (mkF mM 212 ll12 [(.int m5), (.int (5 : Int32)), (.ref b6_)])) rfl rfl (hC at_212)
      have V74_ : Arv Z h74_ b6_ k6_ .char (19 : Int32) [(.int (nar .char m0)), (.int (nar .char m1)), (.int (nar .char m2)), (.int (nar .char m3)), (.int (nar .char m4)), (.int (nar .char m5)), (.int (0 : Int32)), (.int (0 : Int32)), (.int (0 : Int32)), (.int (0 : Int32)), (.int (0 : Int32)), (.int (0 : Int32)), (.int (0 : Int32)), (.int (0 : Int32)), (.int (0 : Int32)), (.int (0 : Int32)), (.int (0 : Int32)), (.int (0 : Int32)), (.int (0 : Int32))] (.int (0 : Int32)) := Arv.set Ar73_ qk73_ Sz73_ Nn73_ Hh73_ Gg73_ (fits_nar_char _) W74_ 5 rfl (Nat.le_of_ble_eq_true rfl)
      have fc75_ := fc69_.wr W74_ ge_b6_
      have fc76_ := fc70_.other W74_ ne7_
      have K74_ := K68_.wr W74_ (Or.inr sz_b6_)
      have N74_ := Fr.snoc X74_ N68_ ge_b6_
      refine own_fin st74_ ?_
      refine jg T74_ mM 219 ll12 [(.int up), (.int (6 : Int32)), (.ref b6_)] (fun tT kK => ?_) ?_
      · refine XS.aload X74_.here hx rfl (hC at_213) rfl rfl ?_
        refine XS.bipush X74_.here hx rfl (hC at_215) ?_
        refine XS.iload X74_.here hx rfl (hC at_217) rfl ?_
        exact kK
      obtain ⟨ec, hec, st77_⟩ : ∃ ec : Int32, (ec = (if up = (0 : Int32) then (101 : Int32) else (69 : Int32))) ∧ ∀ tT, Steps pP.tables eE below (T74_.setTop (mkF mM 229 #[.val (.long q1), .second, .val (.int p2), .val (.int p3), .val (.int he), .val (.int up), .val (.int ng), .val (.int pv), .val (.int ss), .val (.long mg), .second, .val (.ref b4_), .val (.ref b6_), .unset, .unset, .unset, .unset, .unset, .unset] [(.int ec), (.int (6 : Int32)), (.ref b6_)])) tT → Steps pP.tables eE below (T74_.setTop (mkF mM 219 #[.val (.long q1), .second, .val (.int p2), .val (.int p3), .val (.int he), .val (.int up), .val (.int ng), .val (.int pv), .val (.int ss), .val (.long mg), .second, .val (.ref b4_), .val (.ref b6_), .unset, .unset, .unset, .unset, .unset, .unset] [(.int up), (.int (6 : Int32)), (.ref b6_)])) tT := by
        by_cases hm1 : up = (0 : Int32)
        · refine ⟨(101 : Int32), by rw [if_pos hm1], fun tT kK => ?_⟩
          refine XS.ifYes X74_.here hx rfl (pc0 := 219) (pc' := 227) rfl (hC at_219) rfl ((if0 _ _).trans (teq (hm1 : up = (0 : Int32))).1) (by decide) (by decide) ?_
          refine XS.bipush X74_.here hx rfl (hC at_227) ?_
          exact kK
        · refine ⟨(69 : Int32), by rw [if_neg hm1], fun tT kK => ?_⟩
          refine XS.ifNo X74_.here hx rfl (hC at_219) rfl ((if0 _ _).trans (feq (hm1 : ¬ (up = (0 : Int32)))).1) ?_
          refine XS.bipush X74_.here hx rfl (hC at_222) ?_
          refine XS.goto X74_.here hx rfl (pc0 := 224) (pc' := 229) rfl (hC at_224) (by decide) (by decide) ?_
          exact kK
      refine own_fin st77_ ?_
      obtain ⟨cl78_, Ar78_, qk78_, Sz78_, Nn78_, Hh78_, Gg78_⟩ := id V74_
      have hin79_ : ¬ ((6 : Int32) < 0 ∨ cl78_.slots.size ≤ ((6 : Int32)).toNatClampNeg) := inb_of Sz78_ ⟨by decide, by decide⟩
      obtain ⟨T79_, h79_, X79_, e79_, W79_, st79_⟩ := stC X74_ hx hZ e74_ Ar78_ (j := (6 : Int32)) hin79_ (g := (mkF mM 229 ll12 [(.int ec), (.int (6 : Int32)), (.ref b6_)])) rfl rfl (hC at_229)
      have V79_ : Arv Z h79_ b6_ k6_ .char (19 : Int32) [(.int (nar .char m0)), (.int (nar .char m1)), (.int (nar .char m2)), (.int (nar .char m3)), (.int (nar .char m4)), (.int (nar .char m5)), (.int (nar .char ec)), (.int (0 : Int32)), (.int (0 : Int32)), (.int (0 : Int32)), (.int (0 : Int32)), (.int (0 : Int32)), (.int (0 : Int32)), (.int (0 : Int32)), (.int (0 : Int32)), (.int (0 : Int32)), (.int (0 : Int32)), (.int (0 : Int32)), (.int (0 : Int32))] (.int (0 : Int32)) := Arv.set Ar78_ qk78_ Sz78_ Nn78_ Hh78_ Gg78_ (fits_nar_char _) W79_ 6 rfl (Nat.le_of_ble_eq_true rfl)
      have fc80_ := fc75_.wr W79_ ge_b6_
      have fc81_ := fc76_.other W79_ ne7_
      have K79_ := K74_.wr W79_ (Or.inr sz_b6_)
      have N79_ := Fr.snoc X79_ N74_ ge_b6_
      refine own_fin st79_ ?_
      refine jg T79_ mM 236 ll12 [(.int ss), (.int (7 : Int32)), (.ref b6_)] (fun tT kK => ?_) ?_
      · refine XS.aload X79_.here hx rfl (hC at_230) rfl rfl ?_
        refine XS.bipush X79_.here hx rfl (hC at_232) ?_
        refine XS.iload X79_.here hx rfl (hC at_234) rfl ?_
        exact kK
      obtain ⟨sg, hsg, st82_⟩ : ∃ sg : Int32, (sg = (if ss = (0 : Int32) then (43 : Int32) else (if ss = (1 : Int32) then (45 : Int32) else (48 : Int32)))) ∧ ∀ tT, Steps pP.tables eE below (T79_.setTop (mkF mM 257 #[.val (.long q1), .second, .val (.int p2), .val (.int p3), .val (.int he), .val (.int up), .val (.int ng), .val (.int pv), .val (.int ss), .val (.long mg), .second, .val (.ref b4_), .val (.ref b6_), .unset, .unset, .unset, .unset, .unset, .unset] [(.int sg), (.int (7 : Int32)), (.ref b6_)])) tT → Steps pP.tables eE below (T79_.setTop (mkF mM 236 #[.val (.long q1), .second, .val (.int p2), .val (.int p3), .val (.int he), .val (.int up), .val (.int ng), .val (.int pv), .val (.int ss), .val (.long mg), .second, .val (.ref b4_), .val (.ref b6_), .unset, .unset, .unset, .unset, .unset, .unset] [(.int ss), (.int (7 : Int32)), (.ref b6_)])) tT := by
        by_cases hm1 : ss = (0 : Int32)
        · refine ⟨(43 : Int32), by rw [if_pos hm1], fun tT kK => ?_⟩
          refine XS.ifNo X79_.here hx rfl (hC at_236) rfl ((if0 _ _).trans (teq (hm1 : ss = (0 : Int32))).2) ?_
          refine XS.bipush X79_.here hx rfl (hC at_239) ?_
          refine XS.goto X79_.here hx rfl (pc0 := 241) (pc' := 257) rfl (hC at_241) (by decide) (by decide) ?_
          exact kK
        · by_cases hm2 : ss = (1 : Int32)
          · refine ⟨(45 : Int32), by rw [if_neg hm1, if_pos hm2], fun tT kK => ?_⟩
            refine XS.ifYes X79_.here hx rfl (pc0 := 236) (pc' := 244) rfl (hC at_236) rfl ((if0 _ _).trans (feq (hm1 : ¬ (ss = (0 : Int32)))).2) (by decide) (by decide) ?_
            refine XS.iload X79_.here hx rfl (hC at_244) rfl ?_
            refine XS.iconst X79_.here hx rfl (hC at_246) ?_
            refine XS.icmpNo X79_.here hx rfl (hC at_247) rfl (teq (hm2 : ss = (1 : Int32))).2 ?_
            refine XS.bipush X79_.here hx rfl (hC at_250) ?_
            refine XS.goto X79_.here hx rfl (pc0 := 252) (pc' := 257) rfl (hC at_252) (by decide) (by decide) ?_
            exact kK
          · refine ⟨(48 : Int32), by rw [if_neg hm1, if_neg hm2], fun tT kK => ?_⟩
            refine XS.ifYes X79_.here hx rfl (pc0 := 236) (pc' := 244) rfl (hC at_236) rfl ((if0 _ _).trans (feq (hm1 : ¬ (ss = (0 : Int32)))).2) (by decide) (by decide) ?_
            refine XS.iload X79_.here hx rfl (hC at_244) rfl ?_
            refine XS.iconst X79_.here hx rfl (hC at_246) ?_
            refine XS.icmpYes X79_.here hx rfl (pc0 := 247) (pc' := 255) rfl (hC at_247) rfl (feq (hm2 : ¬ (ss = (1 : Int32)))).2 (by decide) (by decide) ?_
            refine XS.bipush X79_.here hx rfl (hC at_255) ?_
            exact kK
      refine own_fin st82_ ?_
      obtain ⟨cl83_, Ar83_, qk83_, Sz83_, Nn83_, Hh83_, Gg83_⟩ := id V79_
      have hin84_ : ¬ ((7 : Int32) < 0 ∨ cl83_.slots.size ≤ ((7 : Int32)).toNatClampNeg) := inb_of Sz83_ ⟨by decide, by decide⟩
      obtain ⟨T84_, h84_, X84_, e84_, W84_, st84_⟩ := stC X79_ hx hZ e79_ Ar83_ (j := (7 : Int32)) hin84_ (g := (mkF mM 257 ll12 [(.int sg), (.int (7 : Int32)), (.ref b6_)])) rfl rfl (hC at_257)
      have V84_ : Arv Z h84_ b6_ k6_ .char (19 : Int32) [(.int (nar .char m0)), (.int (nar .char m1)), (.int (nar .char m2)), (.int (nar .char m3)), (.int (nar .char m4)), (.int (nar .char m5)), (.int (nar .char ec)), (.int (nar .char sg)), (.int (0 : Int32)), (.int (0 : Int32)), (.int (0 : Int32)), (.int (0 : Int32)), (.int (0 : Int32)), (.int (0 : Int32)), (.int (0 : Int32)), (.int (0 : Int32)), (.int (0 : Int32)), (.int (0 : Int32)), (.int (0 : Int32))] (.int (0 : Int32)) := Arv.set Ar83_ qk83_ Sz83_ Nn83_ Hh83_ Gg83_ (fits_nar_char _) W84_ 7 rfl (Nat.le_of_ble_eq_true rfl)
      have fc85_ := fc80_.wr W84_ ge_b6_
      have fc86_ := fc81_.other W84_ ne7_
      have K84_ := K79_.wr W84_ (Or.inr sz_b6_)
      have N84_ := Fr.snoc X84_ N79_ ge_b6_
      refine own_fin st84_ ?_
      refine jg T84_ mM 267 ll12 [(.long (10000000000 : Int64)), (.long mg), (.int (8 : Int32)), (.ref b6_)] (fun tT kK => ?_) ?_
      · refine XS.aload X84_.here hx rfl (hC at_258) rfl rfl ?_
        refine XS.bipush X84_.here hx rfl (hC at_260) ?_
        refine XS.lload X84_.here hx rfl (hC at_262) rfl ?_
        refine X84_.ldc2Long hx hown (jm hZ hw 11 rfl) (g := (mkF mM 264 ll12 [(.long mg), (.int (8 : Int32)), (.ref b6_)])) rfl (hC at_264) _ ?_
        exact kK
      refine jc X84_ hx hZ (y := jy26) hown (jk hw 12 rfl) (jk hw 13 rfl) (jk hw 6 rfl) (jk hw 14 rfl) (rm_dc lL Z a0 hw [] mg (10000000000 : Int64) h84_ n0 (Nat.le_trans Z0 K84_.1) hmb.1 (by decide)) e84_ own_pd18 [(.long mg), (.long (10000000000 : Int64))] [(.int (8 : Int32)), (.ref b6_)] (hC at_267) rfl rfl (by rw [hml]; rfl) (by decide) 2 (Nat.le_of_eq rfl) (by decide) (by decide) (by decide : 2 + 0 ≤ _) (by decide : 25 + 0 ≤ _) fun vv87_ T87_ L87_ X87_ hQ87_ => ?_
      obtain ⟨rfl, N87_q, p87__0⟩ := hQ87_
      have N87_ := Fr.app N84_ N87_q
      obtain ⟨cl88_, Ar88_, qk88_, Sz88_, Nn88_, Hh88_, Gg88_⟩ := id V84_
      have hin89_ : ¬ ((8 : Int32) < 0 ∨ cl88_.slots.size ≤ ((8 : Int32)).toNatClampNeg) := inb_of Sz88_ ⟨by decide, by decide⟩
      obtain ⟨T89_, h89_, X89_, e89_, W89_, st89_⟩ := stC X87_ hx hZ p87__0 Ar88_ (j := (8 : Int32)) hin89_ (g := (mkF mM 270 ll12 [(.int (own_dec mg (10000000000 : Int64))), (.int (8 : Int32)), (.ref b6_)])) rfl rfl (hC at_270)
      have V89_ : Arv Z h89_ b6_ k6_ .char (19 : Int32) [(.int (nar .char m0)), (.int (nar .char m1)), (.int (nar .char m2)), (.int (nar .char m3)), (.int (nar .char m4)), (.int (nar .char m5)), (.int (nar .char ec)), (.int (nar .char sg)), (.int (nar .char (own_dec mg (10000000000 : Int64)))), (.int (0 : Int32)), (.int (0 : Int32)), (.int (0 : Int32)), (.int (0 : Int32)), (.int (0 : Int32)), (.int (0 : Int32)), (.int (0 : Int32)), (.int (0 : Int32)), (.int (0 : Int32)), (.int (0 : Int32))] (.int (0 : Int32)) := Arv.set Ar88_ qk88_ Sz88_ Nn88_ Hh88_ Gg88_ (fits_nar_char _) W89_ 8 rfl (Nat.le_of_ble_eq_true rfl)
      have fc90_ := fc85_.wr W89_ ge_b6_
      have fc91_ := fc86_.other W89_ ne7_
      have K89_ := K84_.wr W89_ (Or.inr sz_b6_)
      have N89_ := Fr.snoc X89_ N87_ ge_b6_
      refine own_fin st89_ ?_
      refine jg T89_ mM 280 ll12 [(.long (1000000000 : Int64)), (.long mg), (.int (9 : Int32)), (.ref b6_)] (fun tT kK => ?_) ?_
      · refine XS.aload X89_.here hx rfl (hC at_271) rfl rfl ?_
        refine XS.bipush X89_.here hx rfl (hC at_273) ?_
        refine XS.lload X89_.here hx rfl (hC at_275) rfl ?_
        refine X89_.ldc2Long hx hown (jm hZ hw 16 rfl) (g := (mkF mM 277 ll12 [(.long mg), (.int (9 : Int32)), (.ref b6_)])) rfl (hC at_277) _ ?_
        exact kK
      refine jc X89_ hx hZ (y := jy26) hown (jk hw 12 rfl) (jk hw 13 rfl) (jk hw 6 rfl) (jk hw 14 rfl) (rm_dc lL Z a0 hw [] mg (1000000000 : Int64) h89_ n0 (Nat.le_trans Z0 K89_.1) hmb.1 (by decide)) e89_ own_pd18 [(.long mg), (.long (1000000000 : Int64))] [(.int (9 : Int32)), (.ref b6_)] (hC at_280) rfl rfl (by rw [hml]; rfl) (by decide) 2 (Nat.le_of_eq rfl) (by decide) (by decide) (by decide : 2 + 0 ≤ _) (by decide : 25 + 0 ≤ _) fun vv92_ T92_ L92_ X92_ hQ92_ => ?_
      obtain ⟨rfl, N92_q, p92__0⟩ := hQ92_
      have N92_ := Fr.app N89_ N92_q
      obtain ⟨cl93_, Ar93_, qk93_, Sz93_, Nn93_, Hh93_, Gg93_⟩ := id V89_
      have hin94_ : ¬ ((9 : Int32) < 0 ∨ cl93_.slots.size ≤ ((9 : Int32)).toNatClampNeg) := inb_of Sz93_ ⟨by decide, by decide⟩
      obtain ⟨T94_, h94_, X94_, e94_, W94_, st94_⟩ := stC X92_ hx hZ p92__0 Ar93_ (j := (9 : Int32)) hin94_ (g := (mkF mM 283 ll12 [(.int (own_dec mg (1000000000 : Int64))), (.int (9 : Int32)), (.ref b6_)])) rfl rfl (hC at_283)
      have V94_ : Arv Z h94_ b6_ k6_ .char (19 : Int32) [(.int (nar .char m0)), (.int (nar .char m1)), (.int (nar .char m2)), (.int (nar .char m3)), (.int (nar .char m4)), (.int (nar .char m5)), (.int (nar .char ec)), (.int (nar .char sg)), (.int (nar .char (own_dec mg (10000000000 : Int64)))), (.int (nar .char (own_dec mg (1000000000 : Int64)))), (.int (0 : Int32)), (.int (0 : Int32)), (.int (0 : Int32)), (.int (0 : Int32)), (.int (0 : Int32)), (.int (0 : Int32)), (.int (0 : Int32)), (.int (0 : Int32)), (.int (0 : Int32))] (.int (0 : Int32)) := Arv.set Ar93_ qk93_ Sz93_ Nn93_ Hh93_ Gg93_ (fits_nar_char _) W94_ 9 rfl (Nat.le_of_ble_eq_true rfl)
      have fc95_ := fc90_.wr W94_ ge_b6_
      have fc96_ := fc91_.other W94_ ne7_
      have K94_ := K89_.wr W94_ (Or.inr sz_b6_)
      have N94_ := Fr.snoc X94_ N92_ ge_b6_
      refine own_fin st94_ ?_
      refine jg T94_ mM 293 ll12 [(.long (100000000 : Int64)), (.long mg), (.int (10 : Int32)), (.ref b6_)] (fun tT kK => ?_) ?_
      · refine XS.aload X94_.here hx rfl (hC at_284) rfl rfl ?_
        refine XS.bipush X94_.here hx rfl (hC at_286) ?_
        refine XS.lload X94_.here hx rfl (hC at_288) rfl ?_
        refine X94_.ldc2Long hx hown (jm hZ hw 17 rfl) (g := (mkF mM 290 ll12 [(.long mg), (.int (10 : Int32)), (.ref b6_)])) rfl (hC at_290) _ ?_
        exact kK
      refine jc X94_ hx hZ (y := jy26) hown (jk hw 12 rfl) (jk hw 13 rfl) (jk hw 6 rfl) (jk hw 14 rfl) (rm_dc lL Z a0 hw [] mg (100000000 : Int64) h94_ n0 (Nat.le_trans Z0 K94_.1) hmb.1 (by decide)) e94_ own_pd18 [(.long mg), (.long (100000000 : Int64))] [(.int (10 : Int32)), (.ref b6_)] (hC at_293) rfl rfl (by rw [hml]; rfl) (by decide) 2 (Nat.le_of_eq rfl) (by decide) (by decide) (by decide : 2 + 0 ≤ _) (by decide : 25 + 0 ≤ _) fun vv97_ T97_ L97_ X97_ hQ97_ => ?_
      obtain ⟨rfl, N97_q, p97__0⟩ := hQ97_
      have N97_ := Fr.app N94_ N97_q
      obtain ⟨cl98_, Ar98_, qk98_, Sz98_, Nn98_, Hh98_, Gg98_⟩ := id V94_
      have hin99_ : ¬ ((10 : Int32) < 0 ∨ cl98_.slots.size ≤ ((10 : Int32)).toNatClampNeg) := inb_of Sz98_ ⟨by decide, by decide⟩
      obtain ⟨T99_, h99_, X99_, e99_, W99_, st99_⟩ := stC X97_ hx hZ p97__0 Ar98_ (j := (10 : Int32)) hin99_ (g := (mkF mM 296 ll12 [(.int (own_dec mg (100000000 : Int64))), (.int (10 : Int32)), (.ref b6_)])) rfl rfl (hC at_296)
      have V99_ : Arv Z h99_ b6_ k6_ .char (19 : Int32) [(.int (nar .char m0)), (.int (nar .char m1)), (.int (nar .char m2)), (.int (nar .char m3)), (.int (nar .char m4)), (.int (nar .char m5)), (.int (nar .char ec)), (.int (nar .char sg)), (.int (nar .char (own_dec mg (10000000000 : Int64)))), (.int (nar .char (own_dec mg (1000000000 : Int64)))), (.int (nar .char (own_dec mg (100000000 : Int64)))), (.int (0 : Int32)), (.int (0 : Int32)), (.int (0 : Int32)), (.int (0 : Int32)), (.int (0 : Int32)), (.int (0 : Int32)), (.int (0 : Int32)), (.int (0 : Int32))] (.int (0 : Int32)) := Arv.set Ar98_ qk98_ Sz98_ Nn98_ Hh98_ Gg98_ (fits_nar_char _) W99_ 10 rfl (Nat.le_of_ble_eq_true rfl)
      have fc100_ := fc95_.wr W99_ ge_b6_
      have fc101_ := fc96_.other W99_ ne7_
      have K99_ := K94_.wr W99_ (Or.inr sz_b6_)
      have N99_ := Fr.snoc X99_ N97_ ge_b6_
      refine own_fin st99_ ?_
      refine jg T99_ mM 306 ll12 [(.long (10000000 : Int64)), (.long mg), (.int (11 : Int32)), (.ref b6_)] (fun tT kK => ?_) ?_
      · refine XS.aload X99_.here hx rfl (hC at_297) rfl rfl ?_
        refine XS.bipush X99_.here hx rfl (hC at_299) ?_
        refine XS.lload X99_.here hx rfl (hC at_301) rfl ?_
        refine X99_.ldc2Long hx hown (jm hZ hw 18 rfl) (g := (mkF mM 303 ll12 [(.long mg), (.int (11 : Int32)), (.ref b6_)])) rfl (hC at_303) _ ?_
        exact kK
      refine jc X99_ hx hZ (y := jy26) hown (jk hw 12 rfl) (jk hw 13 rfl) (jk hw 6 rfl) (jk hw 14 rfl) (rm_dc lL Z a0 hw [] mg (10000000 : Int64) h99_ n0 (Nat.le_trans Z0 K99_.1) hmb.1 (by decide)) e99_ own_pd18 [(.long mg), (.long (10000000 : Int64))] [(.int (11 : Int32)), (.ref b6_)] (hC at_306) rfl rfl (by rw [hml]; rfl) (by decide) 2 (Nat.le_of_eq rfl) (by decide) (by decide) (by decide : 2 + 0 ≤ _) (by decide : 25 + 0 ≤ _) fun vv102_ T102_ L102_ X102_ hQ102_ => ?_
      obtain ⟨rfl, N102_q, p102__0⟩ := hQ102_
      have N102_ := Fr.app N99_ N102_q
      obtain ⟨cl103_, Ar103_, qk103_, Sz103_, Nn103_, Hh103_, Gg103_⟩ := id V99_
      have hin104_ : ¬ ((11 : Int32) < 0 ∨ cl103_.slots.size ≤ ((11 : Int32)).toNatClampNeg) := inb_of Sz103_ ⟨by decide, by decide⟩
      obtain ⟨T104_, h104_, X104_, e104_, W104_, st104_⟩ := stC X102_ hx hZ p102__0 Ar103_ (j := (11 : Int32)) hin104_ (g := (mkF mM 309 ll12 [(.int (own_dec mg (10000000 : Int64))), (.int (11 : Int32)), (.ref b6_)])) rfl rfl (hC at_309)
      have V104_ : Arv Z h104_ b6_ k6_ .char (19 : Int32) [(.int (nar .char m0)), (.int (nar .char m1)), (.int (nar .char m2)), (.int (nar .char m3)), (.int (nar .char m4)), (.int (nar .char m5)), (.int (nar .char ec)), (.int (nar .char sg)), (.int (nar .char (own_dec mg (10000000000 : Int64)))), (.int (nar .char (own_dec mg (1000000000 : Int64)))), (.int (nar .char (own_dec mg (100000000 : Int64)))), (.int (nar .char (own_dec mg (10000000 : Int64)))), (.int (0 : Int32)), (.int (0 : Int32)), (.int (0 : Int32)), (.int (0 : Int32)), (.int (0 : Int32)), (.int (0 : Int32)), (.int (0 : Int32))] (.int (0 : Int32)) := Arv.set Ar103_ qk103_ Sz103_ Nn103_ Hh103_ Gg103_ (fits_nar_char _) W104_ 11 rfl (Nat.le_of_ble_eq_true rfl)
      have fc105_ := fc100_.wr W104_ ge_b6_
      have fc106_ := fc101_.other W104_ ne7_
      have K104_ := K99_.wr W104_ (Or.inr sz_b6_)
      have N104_ := Fr.snoc X104_ N102_ ge_b6_
      refine own_fin st104_ ?_
      refine jg T104_ mM 319 ll12 [(.long (1000000 : Int64)), (.long mg), (.int (12 : Int32)), (.ref b6_)] (fun tT kK => ?_) ?_
      · refine XS.aload X104_.here hx rfl (hC at_310) rfl rfl ?_
        refine XS.bipush X104_.here hx rfl (hC at_312) ?_
        refine XS.lload X104_.here hx rfl (hC at_314) rfl ?_
        show Steps pP.tables eE below (T104_.setTop (mkF mM 316 ll12 [(.long mg), (.int (12 : Int32)), (.ref b6_)])) tT
        refine X104_.ldc2Long hx hown (jm hZ hw 19 rfl) (g := (mkF mM 316 ll12 [(.long mg), (.int (12 : Int32)), (.ref b6_)])) rfl (hC at_316) _ ?_
        exact kK
      refine jc X104_ hx hZ (y := jy26) hown (jk hw 12 rfl) (jk hw 13 rfl) (jk hw 6 rfl) (jk hw 14 rfl) (rm_dc lL Z a0 hw [] mg (1000000 : Int64) h104_ n0 (Nat.le_trans Z0 K104_.1) hmb.1 (by decide)) e104_ own_pd18 [(.long mg), (.long (1000000 : Int64))] [(.int (12 : Int32)), (.ref b6_)] (hC at_319) rfl rfl (by rw [hml]; rfl) (by decide) 2 (Nat.le_of_eq rfl) (by decide) (by decide) (by decide : 2 + 0 ≤ _) (by decide : 25 + 0 ≤ _) fun vv107_ T107_ L107_ X107_ hQ107_ => ?_
      obtain ⟨rfl, N107_q, p107__0⟩ := hQ107_
      have N107_ := Fr.app N104_ N107_q
      obtain ⟨cl108_, Ar108_, qk108_, Sz108_, Nn108_, Hh108_, Gg108_⟩ := id V104_
      have hin109_ : ¬ ((12 : Int32) < 0 ∨ cl108_.slots.size ≤ ((12 : Int32)).toNatClampNeg) := inb_of Sz108_ ⟨by decide, by decide⟩
      obtain ⟨T109_, h109_, X109_, e109_, W109_, st109_⟩ := stC X107_ hx hZ p107__0 Ar108_ (j := (12 : Int32)) hin109_ (g := (mkF mM 322 ll12 [(.int (own_dec mg (1000000 : Int64))), (.int (12 : Int32)), (.ref b6_)])) rfl rfl (hC at_322)
      have V109_ : Arv Z h109_ b6_ k6_ .char (19 : Int32) [(.int (nar .char m0)), (.int (nar .char m1)), (.int (nar .char m2)), (.int (nar .char m3)), (.int (nar .char m4)), (.int (nar .char m5)), (.int (nar .char ec)), (.int (nar .char sg)), (.int (nar .char (own_dec mg (10000000000 : Int64)))), (.int (nar .char (own_dec mg (1000000000 : Int64)))), (.int (nar .char (own_dec mg (100000000 : Int64)))), (.int (nar .char (own_dec mg (10000000 : Int64)))), (.int (nar .char (own_dec mg (1000000 : Int64)))), (.int (0 : Int32)), (.int (0 : Int32)), (.int (0 : Int32)), (.int (0 : Int32)), (.int (0 : Int32)), (.int (0 : Int32))] (.int (0 : Int32)) := Arv.set Ar108_ qk108_ Sz108_ Nn108_ Hh108_ Gg108_ (fits_nar_char _) W109_ 12 rfl (Nat.le_of_ble_eq_true rfl)
      have fc110_ := fc105_.wr W109_ ge_b6_
      have fc111_ := fc106_.other W109_ ne7_
      have K109_ := K104_.wr W109_ (Or.inr sz_b6_)
      have N109_ := Fr.snoc X109_ N107_ ge_b6_
      refine own_fin st109_ ?_
      refine jg T109_ mM 332 ll12 [(.long (100000 : Int64)), (.long mg), (.int (13 : Int32)), (.ref b6_)] (fun tT kK => ?_) ?_
      · refine XS.aload X109_.here hx rfl (hC at_323) rfl rfl ?_
        refine XS.bipush X109_.here hx rfl (hC at_325) ?_
        refine XS.lload X109_.here hx rfl (hC at_327) rfl ?_
        refine X109_.ldc2Long hx hown (jm hZ hw 20 rfl) (g := (mkF mM 329 ll12 [(.long mg), (.int (13 : Int32)), (.ref b6_)])) rfl (hC at_329) _ ?_
        exact kK
      refine jc X109_ hx hZ (y := jy26) hown (jk hw 12 rfl) (jk hw 13 rfl) (jk hw 6 rfl) (jk hw 14 rfl) (rm_dc lL Z a0 hw [] mg (100000 : Int64) h109_ n0 (Nat.le_trans Z0 K109_.1) hmb.1 (by decide)) e109_ own_pd18 [(.long mg), (.long (100000 : Int64))] [(.int (13 : Int32)), (.ref b6_)] (hC at_332) rfl rfl (by rw [hml]; rfl) (by decide) 2 (Nat.le_of_eq rfl) (by decide) (by decide) (by decide : 2 + 0 ≤ _) (by decide : 25 + 0 ≤ _) fun vv112_ T112_ L112_ X112_ hQ112_ => ?_
      obtain ⟨rfl, N112_q, p112__0⟩ := hQ112_
      have N112_ := Fr.app N109_ N112_q
      obtain ⟨cl113_, Ar113_, qk113_, Sz113_, Nn113_, Hh113_, Gg113_⟩ := id V109_
      have hin114_ : ¬ ((13 : Int32) < 0 ∨ cl113_.slots.size ≤ ((13 : Int32)).toNatClampNeg) := inb_of Sz113_ ⟨by decide, by decide⟩
      obtain ⟨T114_, h114_, X114_, e114_, W114_, st114_⟩ := stC X112_ hx hZ p112__0 Ar113_ (j := (13 : Int32)) hin114_ (g := (mkF mM 335 ll12 [(.int (own_dec mg (100000 : Int64))), (.int (13 : Int32)), (.ref b6_)])) rfl rfl (hC at_335)
      have V114_ : Arv Z h114_ b6_ k6_ .char (19 : Int32) [(.int (nar .char m0)), (.int (nar .char m1)), (.int (nar .char m2)), (.int (nar .char m3)), (.int (nar .char m4)), (.int (nar .char m5)), (.int (nar .char ec)), (.int (nar .char sg)), (.int (nar .char (own_dec mg (10000000000 : Int64)))), (.int (nar .char (own_dec mg (1000000000 : Int64)))), (.int (nar .char (own_dec mg (100000000 : Int64)))), (.int (nar .char (own_dec mg (10000000 : Int64)))), (.int (nar .char (own_dec mg (1000000 : Int64)))), (.int (nar .char (own_dec mg (100000 : Int64)))), (.int (0 : Int32)), (.int (0 : Int32)), (.int (0 : Int32)), (.int (0 : Int32)), (.int (0 : Int32))] (.int (0 : Int32)) := Arv.set Ar113_ qk113_ Sz113_ Nn113_ Hh113_ Gg113_ (fits_nar_char _) W114_ 13 rfl (Nat.le_of_ble_eq_true rfl)
      have fc115_ := fc110_.wr W114_ ge_b6_
      have fc116_ := fc111_.other W114_ ne7_
      have K114_ := K109_.wr W114_ (Or.inr sz_b6_)
      have N114_ := Fr.snoc X114_ N112_ ge_b6_
      refine own_fin st114_ ?_
      refine jg T114_ mM 345 ll12 [(.long (10000 : Int64)), (.long mg), (.int (14 : Int32)), (.ref b6_)] (fun tT kK => ?_) ?_
      · refine XS.aload X114_.here hx rfl (hC at_336) rfl rfl ?_
        refine XS.bipush X114_.here hx rfl (hC at_338) ?_
        refine XS.lload X114_.here hx rfl (hC at_340) rfl ?_
        refine X114_.ldc2Long hx hown (jm hZ hw 21 rfl) (g := (mkF mM 342 ll12 [(.long mg), (.int (14 : Int32)), (.ref b6_)])) rfl (hC at_342) _ ?_
        exact kK
      refine jc X114_ hx hZ (y := jy26) hown (jk hw 12 rfl) (jk hw 13 rfl) (jk hw 6 rfl) (jk hw 14 rfl) (rm_dc lL Z a0 hw [] mg (10000 : Int64) h114_ n0 (Nat.le_trans Z0 K114_.1) hmb.1 (by decide)) e114_ own_pd18 [(.long mg), (.long (10000 : Int64))] [(.int (14 : Int32)), (.ref b6_)] (hC at_345) rfl rfl (by rw [hml]; rfl) (by decide) 2 (Nat.le_of_eq rfl) (by decide) (by decide) (by decide : 2 + 0 ≤ _) (by decide : 25 + 0 ≤ _) fun vv117_ T117_ L117_ X117_ hQ117_ => ?_
      obtain ⟨rfl, N117_q, p117__0⟩ := hQ117_
      have N117_ := Fr.app N114_ N117_q
      obtain ⟨cl118_, Ar118_, qk118_, Sz118_, Nn118_, Hh118_, Gg118_⟩ := id V114_
      have hin119_ : ¬ ((14 : Int32) < 0 ∨ cl118_.slots.size ≤ ((14 : Int32)).toNatClampNeg) := inb_of Sz118_ ⟨by decide, by decide⟩
      obtain ⟨T119_, h119_, X119_, e119_, W119_, st119_⟩ := stC X117_ hx hZ p117__0 Ar118_ (j := (14 : Int32)) hin119_ (g := (mkF mM 348 ll12 [(.int (own_dec mg (10000 : Int64))), (.int (14 : Int32)), (.ref b6_)])) rfl rfl (hC at_348)
      have V119_ : Arv Z h119_ b6_ k6_ .char (19 : Int32) [(.int (nar .char m0)), (.int (nar .char m1)), (.int (nar .char m2)), (.int (nar .char m3)), (.int (nar .char m4)), (.int (nar .char m5)), (.int (nar .char ec)), (.int (nar .char sg)), (.int (nar .char (own_dec mg (10000000000 : Int64)))), (.int (nar .char (own_dec mg (1000000000 : Int64)))), (.int (nar .char (own_dec mg (100000000 : Int64)))), (.int (nar .char (own_dec mg (10000000 : Int64)))), (.int (nar .char (own_dec mg (1000000 : Int64)))), (.int (nar .char (own_dec mg (100000 : Int64)))), (.int (nar .char (own_dec mg (10000 : Int64)))), (.int (0 : Int32)), (.int (0 : Int32)), (.int (0 : Int32)), (.int (0 : Int32))] (.int (0 : Int32)) := Arv.set Ar118_ qk118_ Sz118_ Nn118_ Hh118_ Gg118_ (fits_nar_char _) W119_ 14 rfl (Nat.le_of_ble_eq_true rfl)
      have fc120_ := fc115_.wr W119_ ge_b6_
      have fc121_ := fc116_.other W119_ ne7_
      have K119_ := K114_.wr W119_ (Or.inr sz_b6_)
      have N119_ := Fr.snoc X119_ N117_ ge_b6_
      refine own_fin st119_ ?_
      refine jg T119_ mM 358 ll12 [(.long (1000 : Int64)), (.long mg), (.int (15 : Int32)), (.ref b6_)] (fun tT kK => ?_) ?_
      · refine XS.aload X119_.here hx rfl (hC at_349) rfl rfl ?_
        refine XS.bipush X119_.here hx rfl (hC at_351) ?_
        refine XS.lload X119_.here hx rfl (hC at_353) rfl ?_
        refine X119_.ldc2Long hx hown (jm hZ hw 22 rfl) (g := (mkF mM 355 ll12 [(.long mg), (.int (15 : Int32)), (.ref b6_)])) rfl (hC at_355) _ ?_
        exact kK
      refine jc X119_ hx hZ (y := jy26) hown (jk hw 12 rfl) (jk hw 13 rfl) (jk hw 6 rfl) (jk hw 14 rfl) (rm_dc lL Z a0 hw [] mg (1000 : Int64) h119_ n0 (Nat.le_trans Z0 K119_.1) hmb.1 (by decide)) e119_ own_pd18 [(.long mg), (.long (1000 : Int64))] [(.int (15 : Int32)), (.ref b6_)] (hC at_358) rfl rfl (by rw [hml]; rfl) (by decide) 2 (Nat.le_of_eq rfl) (by decide) (by decide) (by decide : 2 + 0 ≤ _) (by decide : 25 + 0 ≤ _) fun vv122_ T122_ L122_ X122_ hQ122_ => ?_
      obtain ⟨rfl, N122_q, p122__0⟩ := hQ122_
      have N122_ := Fr.app N119_ N122_q
      obtain ⟨cl123_, Ar123_, qk123_, Sz123_, Nn123_, Hh123_, Gg123_⟩ := id V119_
      have hin124_ : ¬ ((15 : Int32) < 0 ∨ cl123_.slots.size ≤ ((15 : Int32)).toNatClampNeg) := inb_of Sz123_ ⟨by decide, by decide⟩
      obtain ⟨T124_, h124_, X124_, e124_, W124_, st124_⟩ := stC X122_ hx hZ p122__0 Ar123_ (j := (15 : Int32)) hin124_ (g := (mkF mM 361 ll12 [(.int (own_dec mg (1000 : Int64))), (.int (15 : Int32)), (.ref b6_)])) rfl rfl (hC at_361)
      have V124_ : Arv Z h124_ b6_ k6_ .char (19 : Int32) [(.int (nar .char m0)), (.int (nar .char m1)), (.int (nar .char m2)), (.int (nar .char m3)), (.int (nar .char m4)), (.int (nar .char m5)), (.int (nar .char ec)), (.int (nar .char sg)), (.int (nar .char (own_dec mg (10000000000 : Int64)))), (.int (nar .char (own_dec mg (1000000000 : Int64)))), (.int (nar .char (own_dec mg (100000000 : Int64)))), (.int (nar .char (own_dec mg (10000000 : Int64)))), (.int (nar .char (own_dec mg (1000000 : Int64)))), (.int (nar .char (own_dec mg (100000 : Int64)))), (.int (nar .char (own_dec mg (10000 : Int64)))), (.int (nar .char (own_dec mg (1000 : Int64)))), (.int (0 : Int32)), (.int (0 : Int32)), (.int (0 : Int32))] (.int (0 : Int32)) := Arv.set Ar123_ qk123_ Sz123_ Nn123_ Hh123_ Gg123_ (fits_nar_char _) W124_ 15 rfl (Nat.le_of_ble_eq_true rfl)
      have fc125_ := fc120_.wr W124_ ge_b6_
      have fc126_ := fc121_.other W124_ ne7_
      have K124_ := K119_.wr W124_ (Or.inr sz_b6_)
      have N124_ := Fr.snoc X124_ N122_ ge_b6_
      refine own_fin st124_ ?_
      refine jg T124_ mM 371 ll12 [(.long (100 : Int64)), (.long mg), (.int (16 : Int32)), (.ref b6_)] (fun tT kK => ?_) ?_
      · refine XS.aload X124_.here hx rfl (hC at_362) rfl rfl ?_
        refine XS.bipush X124_.here hx rfl (hC at_364) ?_
        refine XS.lload X124_.here hx rfl (hC at_366) rfl ?_
        refine X124_.ldc2Long hx hown (jm hZ hw 23 rfl) (g := (mkF mM 368 ll12 [(.long mg), (.int (16 : Int32)), (.ref b6_)])) rfl (hC at_368) _ ?_
        exact kK
      refine jc X124_ hx hZ (y := jy26) hown (jk hw 12 rfl) (jk hw 13 rfl) (jk hw 6 rfl) (jk hw 14 rfl) (rm_dc lL Z a0 hw [] mg (100 : Int64) h124_ n0 (Nat.le_trans Z0 K124_.1) hmb.1 (by decide)) e124_ own_pd18 [(.long mg), (.long (100 : Int64))] [(.int (16 : Int32)), (.ref b6_)] (hC at_371) rfl rfl (by rw [hml]; rfl) (by decide) 2 (Nat.le_of_eq rfl) (by decide) (by decide) (by decide : 2 + 0 ≤ _) (by decide : 25 + 0 ≤ _) fun vv127_ T127_ L127_ X127_ hQ127_ => ?_
      obtain ⟨rfl, N127_q, p127__0⟩ := hQ127_
      have N127_ := Fr.app N124_ N127_q
      obtain ⟨cl128_, Ar128_, qk128_, Sz128_, Nn128_, Hh128_, Gg128_⟩ := id V124_
      have hin129_ : ¬ ((16 : Int32) < 0 ∨ cl128_.slots.size ≤ ((16 : Int32)).toNatClampNeg) := inb_of Sz128_ ⟨by decide, by decide⟩
      obtain ⟨T129_, h129_, X129_, e129_, W129_, st129_⟩ := stC X127_ hx hZ p127__0 Ar128_ (j := (16 : Int32)) hin129_ (g := (mkF mM 374 ll12 [(.int (own_dec mg (100 : Int64))), (.int (16 : Int32)), (.ref b6_)])) rfl rfl (hC at_374)
      have V129_ : Arv Z h129_ b6_ k6_ .char (19 : Int32) [(.int (nar .char m0)), (.int (nar .char m1)), (.int (nar .char m2)), (.int (nar .char m3)), (.int (nar .char m4)), (.int (nar .char m5)), (.int (nar .char ec)), (.int (nar .char sg)), (.int (nar .char (own_dec mg (10000000000 : Int64)))), (.int (nar .char (own_dec mg (1000000000 : Int64)))), (.int (nar .char (own_dec mg (100000000 : Int64)))), (.int (nar .char (own_dec mg (10000000 : Int64)))), (.int (nar .char (own_dec mg (1000000 : Int64)))), (.int (nar .char (own_dec mg (100000 : Int64)))), (.int (nar .char (own_dec mg (10000 : Int64)))), (.int (nar .char (own_dec mg (1000 : Int64)))), (.int (nar .char (own_dec mg (100 : Int64)))), (.int (0 : Int32)), (.int (0 : Int32))] (.int (0 : Int32)) := Arv.set Ar128_ qk128_ Sz128_ Nn128_ Hh128_ Gg128_ (fits_nar_char _) W129_ 16 rfl (Nat.le_of_ble_eq_true rfl)
      have fc130_ := fc125_.wr W129_ ge_b6_
      have fc131_ := fc126_.other W129_ ne7_
      have K129_ := K124_.wr W129_ (Or.inr sz_b6_)
      have N129_ := Fr.snoc X129_ N127_ ge_b6_
      refine own_fin st129_ ?_
      refine jg T129_ mM 384 ll12 [(.long (10 : Int64)), (.long mg), (.int (17 : Int32)), (.ref b6_)] (fun tT kK => ?_) ?_
      · refine XS.aload X129_.here hx rfl (hC at_375) rfl rfl ?_
        refine XS.bipush X129_.here hx rfl (hC at_377) ?_
        refine XS.lload X129_.here hx rfl (hC at_379) rfl ?_
        refine X129_.ldc2Long hx hown (jm hZ hw 15 rfl) (g := (mkF mM 381 ll12 [(.long mg), (.int (17 : Int32)), (.ref b6_)])) rfl (hC at_381) _ ?_
        exact kK
      refine jc X129_ hx hZ (y := jy26) hown (jk hw 12 rfl) (jk hw 13 rfl) (jk hw 6 rfl) (jk hw 14 rfl) (rm_dc lL Z a0 hw [] mg (10 : Int64) h129_ n0 (Nat.le_trans Z0 K129_.1) hmb.1 (by decide)) e129_ own_pd18 [(.long mg), (.long (10 : Int64))] [(.int (17 : Int32)), (.ref b6_)] (hC at_384) rfl rfl (by rw [hml]; rfl) (by decide) 2 (Nat.le_of_eq rfl) (by decide) (by decide) (by decide : 2 + 0 ≤ _) (by decide : 25 + 0 ≤ _) fun vv132_ T132_ L132_ X132_ hQ132_ => ?_
      obtain ⟨rfl, N132_q, p132__0⟩ := hQ132_
      have N132_ := Fr.app N129_ N132_q
      obtain ⟨cl133_, Ar133_, qk133_, Sz133_, Nn133_, Hh133_, Gg133_⟩ := id V129_
      have hin134_ : ¬ ((17 : Int32) < 0 ∨ cl133_.slots.size ≤ ((17 : Int32)).toNatClampNeg) := inb_of Sz133_ ⟨by decide, by decide⟩
      obtain ⟨T134_, h134_, X134_, e134_, W134_, st134_⟩ := stC X132_ hx hZ p132__0 Ar133_ (j := (17 : Int32)) hin134_ (g := (mkF mM 387 ll12 [(.int (own_dec mg (10 : Int64))), (.int (17 : Int32)), (.ref b6_)])) rfl rfl (hC at_387)
      have V134_ : Arv Z h134_ b6_ k6_ .char (19 : Int32) [(.int (nar .char m0)), (.int (nar .char m1)), (.int (nar .char m2)), (.int (nar .char m3)), (.int (nar .char m4)), (.int (nar .char m5)), (.int (nar .char ec)), (.int (nar .char sg)), (.int (nar .char (own_dec mg (10000000000 : Int64)))), (.int (nar .char (own_dec mg (1000000000 : Int64)))), (.int (nar .char (own_dec mg (100000000 : Int64)))), (.int (nar .char (own_dec mg (10000000 : Int64)))), (.int (nar .char (own_dec mg (1000000 : Int64)))), (.int (nar .char (own_dec mg (100000 : Int64)))), (.int (nar .char (own_dec mg (10000 : Int64)))), (.int (nar .char (own_dec mg (1000 : Int64)))), (.int (nar .char (own_dec mg (100 : Int64)))), (.int (nar .char (own_dec mg (10 : Int64)))), (.int (0 : Int32))] (.int (0 : Int32)) := Arv.set Ar133_ qk133_ Sz133_ Nn133_ Hh133_ Gg133_ (fits_nar_char _) W134_ 17 rfl (Nat.le_of_ble_eq_true rfl)
      have fc135_ := fc130_.wr W134_ ge_b6_
      have fc136_ := fc131_.other W134_ ne7_
      have K134_ := K129_.wr W134_ (Or.inr sz_b6_)
      have N134_ := Fr.snoc X134_ N132_ ge_b6_
      refine own_fin st134_ ?_
      refine jg T134_ mM 395 ll12 [(.long (1 : Int64)), (.long mg), (.int (18 : Int32)), (.ref b6_)] (fun tT kK => ?_) ?_
      · refine XS.aload X134_.here hx rfl (hC at_388) rfl rfl ?_
        refine XS.bipush X134_.here hx rfl (hC at_390) ?_
        refine XS.lload X134_.here hx rfl (hC at_392) rfl ?_
        refine XS.lconst X134_.here hx rfl (hC at_394) ?_
        exact kK
      refine jc X134_ hx hZ (y := jy26) hown (jk hw 12 rfl) (jk hw 13 rfl) (jk hw 6 rfl) (jk hw 14 rfl) (rm_dc lL Z a0 hw [] mg (1 : Int64) h134_ n0 (Nat.le_trans Z0 K134_.1) hmb.1 (by decide)) e134_ own_pd18 [(.long mg), (.long (1 : Int64))] [(.int (18 : Int32)), (.ref b6_)] (hC at_395) rfl rfl (by rw [hml]; rfl) (by decide) 2 (Nat.le_of_eq rfl) (by decide) (by decide) (by decide : 2 + 0 ≤ _) (by decide : 25 + 0 ≤ _) fun vv137_ T137_ L137_ X137_ hQ137_ => ?_
      obtain ⟨rfl, N137_q, p137__0⟩ := hQ137_
      have N137_ := Fr.app N134_ N137_q
      obtain ⟨cl138_, Ar138_, qk138_, Sz138_, Nn138_, Hh138_, Gg138_⟩ := id V134_
      have hin139_ : ¬ ((18 : Int32) < 0 ∨ cl138_.slots.size ≤ ((18 : Int32)).toNatClampNeg) := inb_of Sz138_ ⟨by decide, by decide⟩
      obtain ⟨T139_, h139_, X139_, e139_, W139_, st139_⟩ := stC X137_ hx hZ p137__0 Ar138_ (j := (18 : Int32)) hin139_ (g := (mkF mM 398 ll12 [(.int (own_dec mg (1 : Int64))), (.int (18 : Int32)), (.ref b6_)])) rfl rfl (hC at_398)
      have V139_ : Arv Z h139_ b6_ k6_ .char (19 : Int32) [(.int (nar .char m0)), (.int (nar .char m1)), (.int (nar .char m2)), (.int (nar .char m3)), (.int (nar .char m4)), (.int (nar .char m5)), (.int (nar .char ec)), (.int (nar .char sg)), (.int (nar .char (own_dec mg (10000000000 : Int64)))), (.int (nar .char (own_dec mg (1000000000 : Int64)))), (.int (nar .char (own_dec mg (100000000 : Int64)))), (.int (nar .char (own_dec mg (10000000 : Int64)))), (.int (nar .char (own_dec mg (1000000 : Int64)))), (.int (nar .char (own_dec mg (100000 : Int64)))), (.int (nar .char (own_dec mg (10000 : Int64)))), (.int (nar .char (own_dec mg (1000 : Int64)))), (.int (nar .char (own_dec mg (100 : Int64)))), (.int (nar .char (own_dec mg (10 : Int64)))), (.int (nar .char (own_dec mg (1 : Int64))))] (.int (0 : Int32)) := Arv.set Ar138_ qk138_ Sz138_ Nn138_ Hh138_ Gg138_ (fits_nar_char _) W139_ 18 rfl (Nat.le_of_ble_eq_true rfl)
      have fc140_ := fc135_.wr W139_ ge_b6_
      have fc141_ := fc136_.other W139_ ne7_
      have K139_ := K134_.wr W139_ (Or.inr sz_b6_)
      have N139_ := Fr.snoc X139_ N137_ ge_b6_
      refine own_fin st139_ ?_
      obtain ⟨xs, hxs⟩ : ∃ z : List Int32, z = [m0, m1, m2, m3, m4, m5, ec, sg, own_dec mg (10000000000 : Int64), own_dec mg (1000000000 : Int64), own_dec mg (100000000 : Int64), own_dec mg (10000000 : Int64), own_dec mg (1000000 : Int64), own_dec mg (100000 : Int64), own_dec mg (10000 : Int64), own_dec mg (1000 : Int64), own_dec mg (100 : Int64), own_dec mg (10 : Int64), own_dec mg (1 : Int64)] := ⟨_, rfl⟩
      have Tf : own_T Z h139_ b6_ .char (19 : Int32) (own_g xs) := by
        have q := V139_
        rw [own_nM hM.1, own_nM hM.2.1, own_nM hM.2.2.1, own_nM hM.2.2.2.1, own_nM hM.2.2.2.2.1, own_nM hM.2.2.2.2.2.1, own_nec hec, own_nsg hsg, own_nde hmb.1 (v := (10000000000 : Int64)) (by decide), own_nde hmb.1 (v := (1000000000 : Int64)) (by decide), own_nde hmb.1 (v := (100000000 : Int64)) (by decide), own_nde hmb.1 (v := (10000000 : Int64)) (by decide), own_nde hmb.1 (v := (1000000 : Int64)) (by decide), own_nde hmb.1 (v := (100000 : Int64)) (by decide), own_nde hmb.1 (v := (10000 : Int64)) (by decide), own_nde hmb.1 (v := (1000 : Int64)) (by decide), own_nde hmb.1 (v := (100 : Int64)) (by decide), own_nde hmb.1 (v := (10 : Int64)) (by decide), own_nde hmb.1 (v := (1 : Int64)) (by decide)] at q
        rw [hxs]; exact own_T.ofV q
      refine jg T139_ mM 401 ll12 [(.int he)] (fun tT kK => ?_) ?_
      · refine XS.iload X139_.here hx rfl (hC at_399) rfl ?_
        exact kK
      by_cases hc401_142_ : he = (0 : Int32)
      · refine jg T139_ mM 416 ll12 [] (fun tT kK => ?_) ?_
        · refine XS.ifYes X139_.here hx rfl (pc0 := 401) (pc' := 416) rfl (hC at_401) rfl ((if0 _ _).trans (teq (hc401_142_ : he = (0 : Int32))).1) (by decide) (by decide) ?_
          exact kK
        clear hxs
        obtain ⟨xs, hxs⟩ : ∃ z : List Int32, z = [m0, m1, m2, m3, m4, m5] := ⟨_, rfl⟩
        have Tm : own_T Z h139_ b4_ .char (6 : Int32) (own_g xs) := by rw [hxs]; exact own_T.ofV fc141_
        obtain ⟨T143_, h143_, X143_, e143_, E143_, A143_, D143_, -, st143_⟩ := newO X139_ hx hZ hown (jk hw 24 rfl) (jk hw 25 rfl) (jk hw 26 rfl) e139_ (g := (mkF mM 416 ll12 [])) rfl (hC at_416) (by decide) (by decide)
        obtain ⟨b143_, g143_⟩ : ∃ z, z = h139_.size := ⟨_, rfl⟩
        rw [← g143_] at A143_ D143_ st143_
        have sz_b143_ : h0.size ≤ b143_ := Nat.le_trans K139_.1 (Nat.le_of_eq g143_.symm)
        have ge_b143_ : n0 ≤ b143_ := Nat.le_trans Z0 sz_b143_
        have ne144_ : b4_ ≠ b143_ := Nat.ne_of_lt (Nat.lt_of_lt_of_le Tm.lt (Nat.le_of_eq g143_.symm))
        have fc145_ := fc140_.ext E143_
        have fc146_ := Tm.ext E143_
        have K143_ := K139_.ext E143_
        have F143__coder : jF0 Z h143_ b143_ (.int (0 : Int32)) := D143_ (Or.inr (jk hw 50 rfl)) (ty := .byte) (by decide)
        have F143__value : jF1 Z h143_ b143_ .null := D143_ (Or.inr (jk hw 52 rfl)) (ty := (.array .byte)) (by decide)
        refine own_fin st143_ ?_
        refine jg T143_ mM 422 ll12 [(.ref b4_), (.ref b143_), (.ref b143_)] (fun tT kK => ?_) ?_
        · refine XS.dup X143_.here hx rfl (hC at_419) rfl rfl ?_
          refine XS.aload X143_.here hx rfl (hC at_420) rfl rfl ?_
          exact kK
        refine own_sb X143_ hx hZ (y := jy11) rfl hown (jk hw 27 rfl) (jk hw 28 rfl) (jk hw 29 rfl) (jk hw 26 rfl) (rm_str lL Z a0 hw [] b143_ b4_ (6 : Int32) (own_g xs) cs h143_ n0 (Nat.le_trans Z0 K143_.1) fc145_ Scs ncs A143_ F143__value F143__coder ge_b143_ fc146_ (own_pall0 hM hxs) (by decide) (by decide) ne144_) (a := b143_) e143_ own_pd19 [(.ref b4_)] [(.ref b143_)] (hC at_422) rfl rfl (by rw [hml]; rfl) (by decide) 1 (Nat.le_of_eq rfl) (by decide) (by decide) (by decide : 3 + 1 ≤ _) (by decide : 29 + 19 ≤ _) fun vv147_ T147_ L147_ X147_ hQ147_ => ?_
        obtain ⟨b_147_, rfl, N147_q, p147__0, p147__1, p147__2, p147__3, p147__4, p147__5⟩ := hQ147_
        have N147_ := Fr.app N139_ N147_q
        have fc150_ := fc145_.keep p147__0 (allS ge_b143_ all0)
        have K147_ := K143_.trans p147__0 (allS (Or.inr sz_b143_) all0)
        let ll13 : Array Slot := #[vJ q1, vS, vI p2, vI p3, vI he, vI up, vI ng, vI pv, vI ss, vJ mg, vS, vR b4_, vR b6_, vR b143_, vJ 0, vS, vJ ((pv.toInt64) - (0 : Int64)), vS, vU]
        refine jg T147_ mM 460 ll13 [] (fun tT kK => ?_) ?_
        · let ll14 : Array Slot := #[vJ q1, vS, vI p2, vI p3, vI he, vI up, vI ng, vI pv, vI ss, vJ mg, vS, vR b4_, vR b6_, vR b143_, vU, vU, vU, vU, vU]
          refine XS.astore X147_.here hx rfl (hC at_425) rfl rfl (l' := ll14) rfl ?_
          refine XS.iload X147_.here hx rfl (hC at_427) rfl ?_
          refine XS.ifYes X147_.here hx rfl (pc0 := 429) (pc' := 449) rfl (hC at_429) rfl ((if0 _ _).trans (teq (hc401_142_ : he = (0 : Int32))).1) (by decide) (by decide) ?_
          refine XS.lconst X147_.here hx rfl (hC at_449) ?_
          let ll15 : Array Slot := #[vJ q1, vS, vI p2, vI p3, vI he, vI up, vI ng, vI pv, vI ss, vJ mg, vS, vR b4_, vR b6_, vR b143_, vJ 0, vS, vU, vU, vU]
          refine XS.lstore X147_.here hx rfl (hC at_450) rfl (l' := ll15) rfl ?_
          refine XS.iload X147_.here hx rfl (hC at_452) rfl ?_
          refine XS.i2l X147_.here hx rfl (hC at_454) rfl ?_
          refine XS.lload X147_.here hx rfl (hC at_455) rfl ?_
          refine XS.lsub X147_.here hx rfl (hC at_457) rfl ?_
          refine XS.lstore X147_.here hx rfl (hC at_458) rfl (l' := ll13) rfl ?_
          exact kK
        show own_Fin pP eE below _ (T147_.setTop (mkF mM 460 #[.val (.long q1), .second, .val (.int p2), .val (.int p3), .val (.int he), .val (.int up), .val (.int ng), .val (.int pv), .val (.int ss), .val (.long mg), .second, .val (.ref b4_), .val (.ref b6_), .val (.ref b143_), .val (.long (0 : Int64)), .second, .val (.long ((pv.toInt64) - (0 : Int64))), .second, .unset] []))
        generalize hdd : ((pv.toInt64) - (0 : Int64)) = dd
        let ll16 : Array Slot := #[vJ q1, vS, vI p2, vI p3, vI he, vI up, vI ng, vI pv, vI ss, vJ mg, vS, vR b4_, vR b6_, vR b143_, vJ 0, vS, vJ dd, vS, vU]
        refine jg T147_ mM 484 ll16 [(.int (lcmpW dd (-2147483648 : Int64)))] (fun tT kK => ?_) ?_
        · refine XS.lload X147_.here hx rfl (hC at_460) rfl ?_
          show Steps pP.tables eE below (T147_.setTop (mkF mM 462 ll16 [(.long (0 : Int64))])) tT
          refine X147_.ldc2Long hx hown (jm hZ hw 53 rfl) (g := (mkF mM 462 ll16 [(.long (0 : Int64))])) rfl (hC at_462) _ ?_
          refine XS.lcmp X147_.here hx rfl (hC at_465) rfl ?_
          refine XS.ifNo X147_.here hx rfl (hC at_466) rfl ((if0 _ _).trans (flt (mt (lw_lt (0 : Int64) (-2147483648 : Int64)).mp ((by decide) : ¬ ((0 : Int64) < (-2147483648 : Int64))))).1) ?_
          refine XS.lload X147_.here hx rfl (hC at_469) rfl ?_
          refine X147_.ldc2Long hx hown (jm hZ hw 54 rfl) (g := (mkF mM 471 ll16 [(.long (0 : Int64))])) rfl (hC at_471) _ ?_
          refine XS.lcmp X147_.here hx rfl (hC at_474) rfl ?_
          refine XS.ifNo X147_.here hx rfl (hC at_475) rfl ((if0 _ _).trans (flt (mt (lw_gt (0 : Int64) (2147483647 : Int64)).mp ((by decide) : ¬ ((2147483647 : Int64) < (0 : Int64))))).2.2.1) ?_
          refine XS.lload X147_.here hx rfl (hC at_478) rfl ?_
          refine X147_.ldc2Long hx hown (jm hZ hw 53 rfl) (g := (mkF mM 480 ll16 [(.long dd)])) rfl (hC at_480) _ ?_
          refine XS.lcmp X147_.here hx rfl (hC at_483) rfl ?_
          exact kK
        obtain ⟨ex, hex, st153_⟩ : ∃ ex : Int32, (ex = (if dd < (-2147483648 : Int64) then (0 : Int32) else (if (2147483647 : Int64) < dd then (0 : Int32) else (1 : Int32)))) ∧ ∀ tT, Steps pP.tables eE below (T147_.setTop (mkF mM 501 #[.val (.long q1), .second, .val (.int p2), .val (.int p3), .val (.int he), .val (.int up), .val (.int ng), .val (.int pv), .val (.int ss), .val (.long mg), .second, .val (.ref b4_), .val (.ref b6_), .val (.ref b143_), .val (.long (0 : Int64)), .second, .val (.long dd), .second, .unset] [(.int ex)])) tT → Steps pP.tables eE below (T147_.setTop (mkF mM 484 #[.val (.long q1), .second, .val (.int p2), .val (.int p3), .val (.int he), .val (.int up), .val (.int ng), .val (.int pv), .val (.int ss), .val (.long mg), .second, .val (.ref b4_), .val (.ref b6_), .val (.ref b143_), .val (.long (0 : Int64)), .second, .val (.long dd), .second, .unset] [(.int (lcmpW dd (-2147483648 : Int64)))])) tT := by
          by_cases hm1 : dd < (-2147483648 : Int64)
          · refine ⟨(0 : Int32), by rw [if_pos hm1], fun tT kK => ?_⟩
            refine XS.ifYes X147_.here hx rfl (pc0 := 484) (pc' := 500) rfl (hC at_484) rfl ((if0 _ _).trans (tlt ((lw_lt dd (-2147483648 : Int64)).mpr (hm1 : dd < (-2147483648 : Int64)))).1) (by decide) (by decide) ?_
            refine XS.iconst X147_.here hx rfl (hC at_500) ?_
            exact kK
          · by_cases hm2 : (2147483647 : Int64) < dd
            · refine ⟨(0 : Int32), by rw [if_neg hm1, if_pos hm2], fun tT kK => ?_⟩
              refine XS.ifNo X147_.here hx rfl (hC at_484) rfl ((if0 _ _).trans (flt (mt (lw_lt dd (-2147483648 : Int64)).mp (hm1 : ¬ (dd < (-2147483648 : Int64))))).1) ?_
              refine XS.lload X147_.here hx rfl (hC at_487) rfl ?_
              refine X147_.ldc2Long hx hown (jm hZ hw 54 rfl) (g := (mkF mM 489 ll16 [(.long dd)])) rfl (hC at_489) _ ?_
              refine XS.lcmp X147_.here hx rfl (hC at_492) rfl ?_
              refine XS.ifYes X147_.here hx rfl (pc0 := 493) (pc' := 500) rfl (hC at_493) rfl ((if0 _ _).trans (tlt ((lw_gt dd (2147483647 : Int64)).mpr (hm2 : (2147483647 : Int64) < dd))).2.2.1) (by decide) (by decide) ?_
              refine XS.iconst X147_.here hx rfl (hC at_500) ?_
              exact kK
            · refine ⟨(1 : Int32), by rw [if_neg hm1, if_neg hm2], fun tT kK => ?_⟩
              refine XS.ifNo X147_.here hx rfl (hC at_484) rfl ((if0 _ _).trans (flt (mt (lw_lt dd (-2147483648 : Int64)).mp (hm1 : ¬ (dd < (-2147483648 : Int64))))).1) ?_
              refine XS.lload X147_.here hx rfl (hC at_487) rfl ?_
              refine X147_.ldc2Long hx hown (jm hZ hw 54 rfl) (g := (mkF mM 489 ll16 [(.long dd)])) rfl (hC at_489) _ ?_
              refine XS.lcmp X147_.here hx rfl (hC at_492) rfl ?_
              refine XS.ifNo X147_.here hx rfl (hC at_493) rfl ((if0 _ _).trans (flt (mt (lw_gt dd (2147483647 : Int64)).mp (hm2 : ¬ ((2147483647 : Int64) < dd)))).2.2.1) ?_
              refine XS.iconst X147_.here hx rfl (hC at_496) ?_
              refine XS.goto X147_.here hx rfl (pc0 := 497) (pc' := 501) rfl (hC at_497) (by decide) (by decide) ?_
              exact kK
        refine own_fin st153_ ?_
        let ll17 : Array Slot := #[vJ q1, vS, vI p2, vI p3, vI he, vI up, vI ng, vI pv, vI ss, vJ mg, vS, vR b4_, vR b6_, vR b143_, vJ 0, vS, vJ dd, vS, vI ex]
        refine jg T147_ mM 505 ll17 [(.ref b143_)] (fun tT kK => ?_) ?_
        · refine XS.istore X147_.here hx rfl (hC at_501) rfl (l' := ll17) rfl ?_
          refine XS.aload X147_.here hx rfl (hC at_503) rfl rfl ?_
          exact kK
        refine jc X147_ hx hZ (y := jy23) hown (jk hw 55 rfl) (jk hw 56 rfl) (jk hw 57 rfl) (jk hw 58 rfl) (rm_inr0 lL Z a0 hw [] b143_ b_147_ (6 : Int32) (fun j => ((own_g xs) j).toInt8.toInt32) cs fv T147_.heap n0 (Nat.le_trans Z0 K147_.1) fc150_ Scs ncs Sfv rfv p147__2 p147__3 p147__4 p147__5 (by decide) (by decide) (own_mk0 hM hxs)) rfl own_pd20 [(.ref b143_)] [] (hC at_505) rfl rfl (by rw [hml]; rfl) (by decide) 0 (Nat.le_of_eq rfl) (by decide) (by decide) (by decide : 4 + 0 ≤ _) (by decide : 48 + 0 ≤ _) fun vv154_ T154_ L154_ X154_ hQ154_ => ?_
        obtain ⟨rfl, N154_q, p154__0⟩ := hQ154_
        have N154_ := Fr.app N147_ N154_q
        refine jg T154_ mM 518 ll17 [(.int (1 : Int32))] (fun tT kK => ?_) ?_
        · refine XS.iload X154_.here hx rfl (hC at_508) rfl ?_
          refine XS.icmpNo X154_.here hx rfl (hC at_510) rfl (teq (own_fin0 hM hxs hdd hex : (if ((0 : Int64).toInt32).toInt64 = (0 : Int64) then (if (((if (own_fd (fun j => ((own_g xs) j).toInt8.toInt32) ((46 : Int32).toInt8.toInt32) (6 : Int32).toNatClampNeg 0) < (0 : Int32) then (0 : Int32) else (((6 : Int32) - (own_fd (fun j => ((own_g xs) j).toInt8.toInt32) ((46 : Int32).toInt8.toInt32) (6 : Int32).toNatClampNeg 0)) - (1 : Int32))).toInt64 - (0 : Int64)).toInt32).toInt64 = ((if (own_fd (fun j => ((own_g xs) j).toInt8.toInt32) ((46 : Int32).toInt8.toInt32) (6 : Int32).toNatClampNeg 0) < (0 : Int32) then (0 : Int32) else (((6 : Int32) - (own_fd (fun j => ((own_g xs) j).toInt8.toInt32) ((46 : Int32).toInt8.toInt32) (6 : Int32).toNatClampNeg 0)) - (1 : Int32))).toInt64 - (0 : Int64)) then (1 : Int32) else (0 : Int32)) else (0 : Int32)) = ex)).2 ?_
          refine XS.iconst X154_.here hx rfl (hC at_513) ?_
          refine XS.goto X154_.here hx rfl (pc0 := 514) (pc' := 518) rfl (hC at_514) (by decide) (by decide) ?_
          exact kK
        exact own_rL X154_ hx hlk hre (by simp) (hC at_518) (w := (.int (1 : Int32))) rfl p154__0 (by decide) (by decide) ⟨rfl, N154_⟩
      · refine jg T139_ mM 404 ll12 [] (fun tT kK => ?_) ?_
        · refine XS.ifNo X139_.here hx rfl (hC at_401) rfl ((if0 _ _).trans (feq (hc401_142_ : ¬ (he = (0 : Int32)))).1) ?_
          exact kK
        obtain ⟨T155_, h155_, X155_, e155_, E155_, A155_, D155_, -, st155_⟩ := newO X139_ hx hZ hown (jk hw 24 rfl) (jk hw 25 rfl) (jk hw 26 rfl) e139_ (g := (mkF mM 404 ll12 [])) rfl (hC at_404) (by decide) (by decide)
        obtain ⟨b155_, g155_⟩ : ∃ z, z = h139_.size := ⟨_, rfl⟩
        rw [← g155_] at A155_ D155_ st155_
        have sz_b155_ : h0.size ≤ b155_ := Nat.le_trans K139_.1 (Nat.le_of_eq g155_.symm)
        have ge_b155_ : n0 ≤ b155_ := Nat.le_trans Z0 sz_b155_
        have ne157_ : b6_ ≠ b155_ := Nat.ne_of_lt (Nat.lt_of_lt_of_le Tf.lt (Nat.le_of_eq g155_.symm))
        have fc158_ := fc140_.ext E155_
        have fc160_ := Tf.ext E155_
        have K155_ := K139_.ext E155_
        have F155__coder : jF0 Z h155_ b155_ (.int (0 : Int32)) := D155_ (Or.inr (jk hw 50 rfl)) (ty := .byte) (by decide)
        have F155__value : jF1 Z h155_ b155_ .null := D155_ (Or.inr (jk hw 52 rfl)) (ty := (.array .byte)) (by decide)
        refine own_fin st155_ ?_
        refine jg T155_ mM 410 ll12 [(.ref b6_), (.ref b155_), (.ref b155_)] (fun tT kK => ?_) ?_
        · refine XS.dup X155_.here hx rfl (hC at_407) rfl rfl ?_
          refine XS.aload X155_.here hx rfl (hC at_408) rfl rfl ?_
          exact kK
        refine own_sb X155_ hx hZ (y := jy11) rfl hown (jk hw 27 rfl) (jk hw 28 rfl) (jk hw 29 rfl) (jk hw 26 rfl) (rm_str lL Z a0 hw [] b155_ b6_ (19 : Int32) (own_g xs) cs h155_ n0 (Nat.le_trans Z0 K155_.1) fc158_ Scs ncs A155_ F155__value F155__coder ge_b155_ fc160_ (own_pall1 hM hmb hec hsg hxs) (by decide) (by decide) ne157_) (a := b155_) e155_ own_pd19 [(.ref b6_)] [(.ref b155_)] (hC at_410) rfl rfl (by rw [hml]; rfl) (by decide) 1 (Nat.le_of_eq rfl) (by decide) (by decide) (by decide : 3 + 1 ≤ _) (by decide : 29 + 19 ≤ _) fun vv161_ T161_ L161_ X161_ hQ161_ => ?_
        obtain ⟨b_161_, rfl, N161_q, p161__0, p161__1, p161__2, p161__3, p161__4, p161__5⟩ := hQ161_
        have N161_ := Fr.app N139_ N161_q
        have fc165_ := fc158_.keep p161__0 (allS ge_b155_ all0)
        have K161_ := K155_.trans p161__0 (allS (Or.inr sz_b155_) all0)
        let ll18 : Array Slot := #[vJ q1, vS, vI p2, vI p3, vI he, vI up, vI ng, vI pv, vI ss, vJ mg, vS, vR b4_, vR b6_, vR b155_, vU, vU, vU, vU, vU]
        refine jg T161_ mM 435 ll18 [(.int (1 : Int32)), (.int ss)] (fun tT kK => ?_) ?_
        · refine XS.goto X161_.here hx rfl (pc0 := 413) (pc' := 425) rfl (hC at_413) (by decide) (by decide) ?_
          refine XS.astore X161_.here hx rfl (hC at_425) rfl rfl (l' := ll18) rfl ?_
          refine XS.iload X161_.here hx rfl (hC at_427) rfl ?_
          refine XS.ifNo X161_.here hx rfl (hC at_429) rfl ((if0 _ _).trans (feq (hc401_142_ : ¬ (he = (0 : Int32)))).1) ?_
          refine XS.iload X161_.here hx rfl (hC at_432) rfl ?_
          refine XS.iconst X161_.here hx rfl (hC at_434) ?_
          exact kK
        obtain ⟨ee, hee, st169_⟩ : ∃ ee : Int64, (ee = (if ss = (1 : Int32) then (-mg) else mg)) ∧ ∀ tT, Steps pP.tables eE below (T161_.setTop (mkF mM 450 #[.val (.long q1), .second, .val (.int p2), .val (.int p3), .val (.int he), .val (.int up), .val (.int ng), .val (.int pv), .val (.int ss), .val (.long mg), .second, .val (.ref b4_), .val (.ref b6_), .val (.ref b155_), .unset, .unset, .unset, .unset, .unset] [(.long ee)])) tT → Steps pP.tables eE below (T161_.setTop (mkF mM 435 #[.val (.long q1), .second, .val (.int p2), .val (.int p3), .val (.int he), .val (.int up), .val (.int ng), .val (.int pv), .val (.int ss), .val (.long mg), .second, .val (.ref b4_), .val (.ref b6_), .val (.ref b155_), .unset, .unset, .unset, .unset, .unset] [(.int (1 : Int32)), (.int ss)])) tT := by
          by_cases hm1 : ss = (1 : Int32)
          · refine ⟨(-mg), by rw [if_pos hm1], fun tT kK => ?_⟩
            refine XS.icmpNo X161_.here hx rfl (hC at_435) rfl (teq (hm1 : ss = (1 : Int32))).2 ?_
            refine XS.lload X161_.here hx rfl (hC at_438) rfl ?_
            refine XS.lneg X161_.here hx rfl (hC at_440) rfl ?_
            refine XS.goto X161_.here hx rfl (pc0 := 441) (pc' := 450) rfl (hC at_441) (by decide) (by decide) ?_
            exact kK
          · refine ⟨mg, by rw [if_neg hm1], fun tT kK => ?_⟩
            refine XS.icmpYes X161_.here hx rfl (pc0 := 435) (pc' := 444) rfl (hC at_435) rfl (feq (hm1 : ¬ (ss = (1 : Int32)))).2 (by decide) (by decide) ?_
            refine XS.lload X161_.here hx rfl (hC at_444) rfl ?_
            refine XS.goto X161_.here hx rfl (pc0 := 446) (pc' := 450) rfl (hC at_446) (by decide) (by decide) ?_
            exact kK
        refine own_fin st169_ ?_
        let ll19 : Array Slot := #[vJ q1, vS, vI p2, vI p3, vI he, vI up, vI ng, vI pv, vI ss, vJ mg, vS, vR b4_, vR b6_, vR b155_, vJ ee, vS, vJ ((pv.toInt64) - ee), vS, vU]
        refine jg T161_ mM 460 ll19 [] (fun tT kK => ?_) ?_
        · let ll20 : Array Slot := #[vJ q1, vS, vI p2, vI p3, vI he, vI up, vI ng, vI pv, vI ss, vJ mg, vS, vR b4_, vR b6_, vR b155_, vJ ee, vS, vU, vU, vU]
          refine XS.lstore X161_.here hx rfl (hC at_450) rfl (l' := ll20) rfl ?_
          refine XS.iload X161_.here hx rfl (hC at_452) rfl ?_
          refine XS.i2l X161_.here hx rfl (hC at_454) rfl ?_
          refine XS.lload X161_.here hx rfl (hC at_455) rfl ?_
          refine XS.lsub X161_.here hx rfl (hC at_457) rfl ?_
          show Steps pP.tables eE below (T161_.setTop (mkF mM 458 ll20 [(.long ((pv.toInt64) - ee))])) tT
          refine XS.lstore X161_.here hx rfl (hC at_458) rfl (l' := ll19) rfl ?_
          exact kK
        show own_Fin pP eE below _ (T161_.setTop (mkF mM 460 #[.val (.long q1), .second, .val (.int p2), .val (.int p3), .val (.int he), .val (.int up), .val (.int ng), .val (.int pv), .val (.int ss), .val (.long mg), .second, .val (.ref b4_), .val (.ref b6_), .val (.ref b155_), .val (.long ee), .second, .val (.long ((pv.toInt64) - ee)), .second, .unset] []))
        generalize hdd : ((pv.toInt64) - ee) = dd
        let ll21 : Array Slot := #[vJ q1, vS, vI p2, vI p3, vI he, vI up, vI ng, vI pv, vI ss, vJ mg, vS, vR b4_, vR b6_, vR b155_, vJ ee, vS, vJ dd, vS, vU]
        refine jg T161_ mM 466 ll21 [(.int (lcmpW ee (-2147483648 : Int64)))] (fun tT kK => ?_) ?_
        · refine XS.lload X161_.here hx rfl (hC at_460) rfl ?_
          refine X161_.ldc2Long hx hown (jm hZ hw 53 rfl) (g := (mkF mM 462 ll21 [(.long ee)])) rfl (hC at_462) _ ?_
          refine XS.lcmp X161_.here hx rfl (hC at_465) rfl ?_
          exact kK
        obtain ⟨ex, hex, st170_⟩ : ∃ ex : Int32, (ex = (if ee < (-2147483648 : Int64) then (0 : Int32) else (if (2147483647 : Int64) < ee then (0 : Int32) else (if dd < (-2147483648 : Int64) then (0 : Int32) else (if (2147483647 : Int64) < dd then (0 : Int32) else (1 : Int32)))))) ∧ ∀ tT, Steps pP.tables eE below (T161_.setTop (mkF mM 501 #[.val (.long q1), .second, .val (.int p2), .val (.int p3), .val (.int he), .val (.int up), .val (.int ng), .val (.int pv), .val (.int ss), .val (.long mg), .second, .val (.ref b4_), .val (.ref b6_), .val (.ref b155_), .val (.long ee), .second, .val (.long dd), .second, .unset] [(.int ex)])) tT → Steps pP.tables eE below (T161_.setTop (mkF mM 466 #[.val (.long q1), .second, .val (.int p2), .val (.int p3), .val (.int he), .val (.int up), .val (.int ng), .val (.int pv), .val (.int ss), .val (.long mg), .second, .val (.ref b4_), .val (.ref b6_), .val (.ref b155_), .val (.long ee), .second, .val (.long dd), .second, .unset] [(.int (lcmpW ee (-2147483648 : Int64)))])) tT := by
          by_cases hm1 : ee < (-2147483648 : Int64)
          · refine ⟨(0 : Int32), by rw [if_pos hm1], fun tT kK => ?_⟩
            refine XS.ifYes X161_.here hx rfl (pc0 := 466) (pc' := 500) rfl (hC at_466) rfl ((if0 _ _).trans (tlt ((lw_lt ee (-2147483648 : Int64)).mpr (hm1 : ee < (-2147483648 : Int64)))).1) (by decide) (by decide) ?_
            refine XS.iconst X161_.here hx rfl (hC at_500) ?_
            exact kK
          · by_cases hm2 : (2147483647 : Int64) < ee
            · refine ⟨(0 : Int32), by rw [if_neg hm1, if_pos hm2], fun tT kK => ?_⟩
              refine XS.ifNo X161_.here hx rfl (hC at_466) rfl ((if0 _ _).trans (flt (mt (lw_lt ee (-2147483648 : Int64)).mp (hm1 : ¬ (ee < (-2147483648 : Int64))))).1) ?_
              refine XS.lload X161_.here hx rfl (hC at_469) rfl ?_
              refine X161_.ldc2Long hx hown (jm hZ hw 54 rfl) (g := (mkF mM 471 ll21 [(.long ee)])) rfl (hC at_471) _ ?_
              refine XS.lcmp X161_.here hx rfl (hC at_474) rfl ?_
              refine XS.ifYes X161_.here hx rfl (pc0 := 475) (pc' := 500) rfl (hC at_475) rfl ((if0 _ _).trans (tlt ((lw_gt ee (2147483647 : Int64)).mpr (hm2 : (2147483647 : Int64) < ee))).2.2.1) (by decide) (by decide) ?_
              refine XS.iconst X161_.here hx rfl (hC at_500) ?_
              exact kK
            · by_cases hm3 : dd < (-2147483648 : Int64)
              · refine ⟨(0 : Int32), by rw [if_neg hm1, if_neg hm2, if_pos hm3], fun tT kK => ?_⟩
                refine XS.ifNo X161_.here hx rfl (hC at_466) rfl ((if0 _ _).trans (flt (mt (lw_lt ee (-2147483648 : Int64)).mp (hm1 : ¬ (ee < (-2147483648 : Int64))))).1) ?_
                refine XS.lload X161_.here hx rfl (hC at_469) rfl ?_
                refine X161_.ldc2Long hx hown (jm hZ hw 54 rfl) (g := (mkF mM 471 ll21 [(.long ee)])) rfl (hC at_471) _ ?_
                refine XS.lcmp X161_.here hx rfl (hC at_474) rfl ?_
                refine XS.ifNo X161_.here hx rfl (hC at_475) rfl ((if0 _ _).trans (flt (mt (lw_gt ee (2147483647 : Int64)).mp (hm2 : ¬ ((2147483647 : Int64) < ee)))).2.2.1) ?_
                refine XS.lload X161_.here hx rfl (hC at_478) rfl ?_
                refine X161_.ldc2Long hx hown (jm hZ hw 53 rfl) (g := (mkF mM 480 ll21 [(.long dd)])) rfl (hC at_480) _ ?_
                refine XS.lcmp X161_.here hx rfl (hC at_483) rfl ?_
                refine XS.ifYes X161_.here hx rfl (pc0 := 484) (pc' := 500) rfl (hC at_484) rfl ((if0 _ _).trans (tlt ((lw_lt dd (-2147483648 : Int64)).mpr (hm3 : dd < (-2147483648 : Int64)))).1) (by decide) (by decide) ?_
                refine XS.iconst X161_.here hx rfl (hC at_500) ?_
                exact kK
              · by_cases hm4 : (2147483647 : Int64) < dd
                · refine ⟨(0 : Int32), by rw [if_neg hm1, if_neg hm2, if_neg hm3, if_pos hm4], fun tT kK => ?_⟩
                  refine XS.ifNo X161_.here hx rfl (hC at_466) rfl ((if0 _ _).trans (flt (mt (lw_lt ee (-2147483648 : Int64)).mp (hm1 : ¬ (ee < (-2147483648 : Int64))))).1) ?_
                  refine XS.lload X161_.here hx rfl (hC at_469) rfl ?_
                  refine X161_.ldc2Long hx hown (jm hZ hw 54 rfl) (g := (mkF mM 471 ll21 [(.long ee)])) rfl (hC at_471) _ ?_
                  refine XS.lcmp X161_.here hx rfl (hC at_474) rfl ?_
                  refine XS.ifNo X161_.here hx rfl (hC at_475) rfl ((if0 _ _).trans (flt (mt (lw_gt ee (2147483647 : Int64)).mp (hm2 : ¬ ((2147483647 : Int64) < ee)))).2.2.1) ?_
                  refine XS.lload X161_.here hx rfl (hC at_478) rfl ?_
                  refine X161_.ldc2Long hx hown (jm hZ hw 53 rfl) (g := (mkF mM 480 ll21 [(.long dd)])) rfl (hC at_480) _ ?_
                  refine XS.lcmp X161_.here hx rfl (hC at_483) rfl ?_
                  refine XS.ifNo X161_.here hx rfl (hC at_484) rfl ((if0 _ _).trans (flt (mt (lw_lt dd (-2147483648 : Int64)).mp (hm3 : ¬ (dd < (-2147483648 : Int64))))).1) ?_
                  refine XS.lload X161_.here hx rfl (hC at_487) rfl ?_
                  refine X161_.ldc2Long hx hown (jm hZ hw 54 rfl) (g := (mkF mM 489 ll21 [(.long dd)])) rfl (hC at_489) _ ?_
                  refine XS.lcmp X161_.here hx rfl (hC at_492) rfl ?_
                  refine XS.ifYes X161_.here hx rfl (pc0 := 493) (pc' := 500) rfl (hC at_493) rfl ((if0 _ _).trans (tlt ((lw_gt dd (2147483647 : Int64)).mpr (hm4 : (2147483647 : Int64) < dd))).2.2.1) (by decide) (by decide) ?_
                  refine XS.iconst X161_.here hx rfl (hC at_500) ?_
                  exact kK
                · refine ⟨(1 : Int32), by rw [if_neg hm1, if_neg hm2, if_neg hm3, if_neg hm4], fun tT kK => ?_⟩
                  refine XS.ifNo X161_.here hx rfl (hC at_466) rfl ((if0 _ _).trans (flt (mt (lw_lt ee (-2147483648 : Int64)).mp (hm1 : ¬ (ee < (-2147483648 : Int64))))).1) ?_
                  refine XS.lload X161_.here hx rfl (hC at_469) rfl ?_
                  refine X161_.ldc2Long hx hown (jm hZ hw 54 rfl) (g := (mkF mM 471 ll21 [(.long ee)])) rfl (hC at_471) _ ?_
                  refine XS.lcmp X161_.here hx rfl (hC at_474) rfl ?_
                  refine XS.ifNo X161_.here hx rfl (hC at_475) rfl ((if0 _ _).trans (flt (mt (lw_gt ee (2147483647 : Int64)).mp (hm2 : ¬ ((2147483647 : Int64) < ee)))).2.2.1) ?_
                  refine XS.lload X161_.here hx rfl (hC at_478) rfl ?_
                  refine X161_.ldc2Long hx hown (jm hZ hw 53 rfl) (g := (mkF mM 480 ll21 [(.long dd)])) rfl (hC at_480) _ ?_
                  refine XS.lcmp X161_.here hx rfl (hC at_483) rfl ?_
                  refine XS.ifNo X161_.here hx rfl (hC at_484) rfl ((if0 _ _).trans (flt (mt (lw_lt dd (-2147483648 : Int64)).mp (hm3 : ¬ (dd < (-2147483648 : Int64))))).1) ?_
                  refine XS.lload X161_.here hx rfl (hC at_487) rfl ?_
                  refine X161_.ldc2Long hx hown (jm hZ hw 54 rfl) (g := (mkF mM 489 ll21 [(.long dd)])) rfl (hC at_489) _ ?_
                  refine XS.lcmp X161_.here hx rfl (hC at_492) rfl ?_
                  refine XS.ifNo X161_.here hx rfl (hC at_493) rfl ((if0 _ _).trans (flt (mt (lw_gt dd (2147483647 : Int64)).mp (hm4 : ¬ ((2147483647 : Int64) < dd)))).2.2.1) ?_
                  refine XS.iconst X161_.here hx rfl (hC at_496) ?_
                  refine XS.goto X161_.here hx rfl (pc0 := 497) (pc' := 501) rfl (hC at_497) (by decide) (by decide) ?_
                  exact kK
        refine own_fin st170_ ?_
        let ll22 : Array Slot := #[vJ q1, vS, vI p2, vI p3, vI he, vI up, vI ng, vI pv, vI ss, vJ mg, vS, vR b4_, vR b6_, vR b155_, vJ ee, vS, vJ dd, vS, vI ex]
        refine jg T161_ mM 505 ll22 [(.ref b155_)] (fun tT kK => ?_) ?_
        · refine XS.istore X161_.here hx rfl (hC at_501) rfl (l' := ll22) rfl ?_
          refine XS.aload X161_.here hx rfl (hC at_503) rfl rfl ?_
          exact kK
        refine jc X161_ hx hZ (y := jy23) hown (jk hw 55 rfl) (jk hw 56 rfl) (jk hw 57 rfl) (jk hw 58 rfl) (rm_inr1 lL Z a0 hw [] b155_ 6 b_161_ (19 : Int32) (fun j => ((own_g xs) j).toInt8.toInt32) cs fv T161_.heap n0 (Nat.le_trans Z0 K161_.1) fc165_ Scs ncs Sfv rfv p161__2 p161__3 p161__4 p161__5 (by decide) (by decide) (own_mk1 hM hmb hec hsg hxs)) rfl own_pd20 [(.ref b155_)] [] (hC at_505) rfl rfl (by rw [hml]; rfl) (by decide) 0 (Nat.le_of_eq rfl) (by decide) (by decide) (by decide : 4 + 0 ≤ _) (by decide : 48 + 0 ≤ _) fun vv171_ T171_ L171_ X171_ hQ171_ => ?_
        obtain ⟨rfl, N171_q, p171__0⟩ := hQ171_
        have N171_ := Fr.app N161_ N171_q
        refine jg T171_ mM 518 ll22 [(.int (1 : Int32))] (fun tT kK => ?_) ?_
        · refine XS.iload X171_.here hx rfl (hC at_508) rfl ?_
          refine XS.icmpNo X171_.here hx rfl (hC at_510) rfl (teq (own_fin1 hM hmb hec hsg hxs hee hdd hex : (if ((if (own_ch ((fun j => ((own_g xs) j).toInt8.toInt32) ((Int32.ofNat 6) + (1 : Int32)))) = (45 : Int32) then (-(own_mg (fun j => ((own_g xs) j).toInt8.toInt32) ((19 : Int32).toNatClampNeg - (6 + 1)) (6 + 1) (0 : Int64))) else (own_mg (fun j => ((own_g xs) j).toInt8.toInt32) ((19 : Int32).toNatClampNeg - (6 + 1)) (6 + 1) (0 : Int64))).toInt32).toInt64 = (if (own_ch ((fun j => ((own_g xs) j).toInt8.toInt32) ((Int32.ofNat 6) + (1 : Int32)))) = (45 : Int32) then (-(own_mg (fun j => ((own_g xs) j).toInt8.toInt32) ((19 : Int32).toNatClampNeg - (6 + 1)) (6 + 1) (0 : Int64))) else (own_mg (fun j => ((own_g xs) j).toInt8.toInt32) ((19 : Int32).toNatClampNeg - (6 + 1)) (6 + 1) (0 : Int64))) then (if (((if (own_fd (fun j => ((own_g xs) j).toInt8.toInt32) ((46 : Int32).toInt8.toInt32) (19 : Int32).toNatClampNeg 0) < (0 : Int32) then (0 : Int32) else (((Int32.ofNat 6) - (own_fd (fun j => ((own_g xs) j).toInt8.toInt32) ((46 : Int32).toInt8.toInt32) (19 : Int32).toNatClampNeg 0)) - (1 : Int32))).toInt64 - (if (own_ch ((fun j => ((own_g xs) j).toInt8.toInt32) ((Int32.ofNat 6) + (1 : Int32)))) = (45 : Int32) then (-(own_mg (fun j => ((own_g xs) j).toInt8.toInt32) ((19 : Int32).toNatClampNeg - (6 + 1)) (6 + 1) (0 : Int64))) else (own_mg (fun j => ((own_g xs) j).toInt8.toInt32) ((19 : Int32).toNatClampNeg - (6 + 1)) (6 + 1) (0 : Int64)))).toInt32).toInt64 = ((if (own_fd (fun j => ((own_g xs) j).toInt8.toInt32) ((46 : Int32).toInt8.toInt32) (19 : Int32).toNatClampNeg 0) < (0 : Int32) then (0 : Int32) else (((Int32.ofNat 6) - (own_fd (fun j => ((own_g xs) j).toInt8.toInt32) ((46 : Int32).toInt8.toInt32) (19 : Int32).toNatClampNeg 0)) - (1 : Int32))).toInt64 - (if (own_ch ((fun j => ((own_g xs) j).toInt8.toInt32) ((Int32.ofNat 6) + (1 : Int32)))) = (45 : Int32) then (-(own_mg (fun j => ((own_g xs) j).toInt8.toInt32) ((19 : Int32).toNatClampNeg - (6 + 1)) (6 + 1) (0 : Int64))) else (own_mg (fun j => ((own_g xs) j).toInt8.toInt32) ((19 : Int32).toNatClampNeg - (6 + 1)) (6 + 1) (0 : Int64)))) then (1 : Int32) else (0 : Int32)) else (0 : Int32)) = ex)).2 ?_
          refine XS.iconst X171_.here hx rfl (hC at_513) ?_
          refine XS.goto X171_.here hx rfl (pc0 := 514) (pc' := 518) rfl (hC at_514) (by decide) (by decide) ?_
          exact kK
        exact own_rL X171_ hx hlk hre (by simp) (hC at_518) (w := (.int (1 : Int32))) rfl p171__0 (by decide) (by decide) ⟨rfl, N171_⟩
    by_cases hc153_172_ : pv = (0 : Int32)
    · refine jg T37_ mM 165 ll12 [] (fun tT kK => ?_) ?_
      · refine XS.ifYes X37_.here hx rfl (pc0 := 153) (pc' := 165) rfl (hC at_153) rfl ((if0 _ _).trans (teq (hc153_172_ : pv = (0 : Int32))).1) (by decide) (by decide) ?_
        exact kK
      exact jp40_ c0 c1 c2 c3 c4 c5 _ _ _ (own_M0 hc153_172_ hc0 hc1 hc2 hc3 hc4 hc5) X37_ e37_ K37_ fc38_ V37_ fc39_ N37_
    · refine jg T37_ mM 156 ll12 [] (fun tT kK => ?_) ?_
      · refine XS.ifNo X37_.here hx rfl (hC at_153) rfl ((if0 _ _).trans (feq (hc153_172_ : ¬ (pv = (0 : Int32)))).1) ?_
        exact kK
      have hp3 := hp4.resolve_left hc153_172_
      clear hp4 hc153_172_
      rcases hp3 with rfl | rfl | rfl
      · let ll23 : Array Slot := #[vJ q1, vS, vI p2, vI p3, vI he, vI up, vI ng, vI 1, vI ss, vJ mg, vS, vR b4_, vR b6_, vU, vU, vU, vU, vU, vU]
        refine jg T37_ mM 164 ll23 [(.int (46 : Int32)), (.int (4 : Int32)), (.ref b4_)] (fun tT kK => ?_) ?_
        · refine XS.aload X37_.here hx rfl (hC at_156) rfl rfl ?_
          refine XS.iconst X37_.here hx rfl (hC at_158) ?_
          refine XS.iload X37_.here hx rfl (hC at_159) rfl ?_
          refine XS.isub X37_.here hx rfl (hC at_161) rfl ?_
          refine XS.bipush X37_.here hx rfl (hC at_162) ?_
          exact kK
        obtain ⟨cl173_, Ar173_, qk173_, Sz173_, Nn173_, Hh173_, Gg173_⟩ := id V37_
        have hin174_ : ¬ ((4 : Int32) < 0 ∨ cl173_.slots.size ≤ ((4 : Int32)).toNatClampNeg) := inb_of Sz173_ ⟨by decide, by decide⟩
        obtain ⟨T174_, h174_, X174_, e174_, W174_, st174_⟩ := stC X37_ hx hZ e37_ Ar173_ (j := (4 : Int32)) hin174_ (g := (mkF mM 164 ll23 [(.int (46 : Int32)), (.int (4 : Int32)), (.ref b4_)])) rfl rfl (hC at_164)
        have V174_ : Arv Z h174_ b4_ k4_ .char (6 : Int32) [(.int c0), (.int c1), (.int c2), (.int c3), (.int (nar .char (46 : Int32))), (.int c5)] (.int (0 : Int32)) := Arv.set Ar173_ qk173_ Sz173_ Nn173_ Hh173_ Gg173_ (fits_nar_char _) W174_ 4 rfl (Nat.le_of_ble_eq_true rfl)
        have fc175_ := fc38_.wr W174_ ge_b4_
        have fc176_ := fc39_.other W174_ (Ne.symm ne7_)
        have K174_ := K37_.wr W174_ (Or.inr sz_b4_)
        have N174_ := Fr.snoc X174_ N37_ ge_b4_
        refine own_fin st174_ ?_
        have V174_' := V174_
        rw [own_n46] at V174_'
        exact jp40_ c0 c1 c2 c3 (46 : Int32) c5 _ _ _ (own_M1 hc0 hc1 hc2 hc3 hc4 hc5) X174_ e174_ K174_ fc175_ V174_' fc176_ N174_
      · let ll24 : Array Slot := #[vJ q1, vS, vI p2, vI p3, vI he, vI up, vI ng, vI 2, vI ss, vJ mg, vS, vR b4_, vR b6_, vU, vU, vU, vU, vU, vU]
        refine jg T37_ mM 164 ll24 [(.int (46 : Int32)), (.int (3 : Int32)), (.ref b4_)] (fun tT kK => ?_) ?_
        · refine XS.aload X37_.here hx rfl (hC at_156) rfl rfl ?_
          refine XS.iconst X37_.here hx rfl (hC at_158) ?_
          refine XS.iload X37_.here hx rfl (hC at_159) rfl ?_
          refine XS.isub X37_.here hx rfl (hC at_161) rfl ?_
          refine XS.bipush X37_.here hx rfl (hC at_162) ?_
          exact kK
        obtain ⟨cl177_, Ar177_, qk177_, Sz177_, Nn177_, Hh177_, Gg177_⟩ := id V37_
        have hin178_ : ¬ ((3 : Int32) < 0 ∨ cl177_.slots.size ≤ ((3 : Int32)).toNatClampNeg) := inb_of Sz177_ ⟨by decide, by decide⟩
        obtain ⟨T178_, h178_, X178_, e178_, W178_, st178_⟩ := stC X37_ hx hZ e37_ Ar177_ (j := (3 : Int32)) hin178_ (g := (mkF mM 164 ll24 [(.int (46 : Int32)), (.int (3 : Int32)), (.ref b4_)])) rfl rfl (hC at_164)
        have V178_ : Arv Z h178_ b4_ k4_ .char (6 : Int32) [(.int c0), (.int c1), (.int c2), (.int (nar .char (46 : Int32))), (.int c4), (.int c5)] (.int (0 : Int32)) := Arv.set Ar177_ qk177_ Sz177_ Nn177_ Hh177_ Gg177_ (fits_nar_char _) W178_ 3 rfl (Nat.le_of_ble_eq_true rfl)
        have fc179_ := fc38_.wr W178_ ge_b4_
        have fc180_ := fc39_.other W178_ (Ne.symm ne7_)
        have K178_ := K37_.wr W178_ (Or.inr sz_b4_)
        have N178_ := Fr.snoc X178_ N37_ ge_b4_
        refine own_fin st178_ ?_
        have V178_' := V178_
        rw [own_n46] at V178_'
        exact jp40_ c0 c1 c2 (46 : Int32) c4 c5 _ _ _ (own_M2 hc0 hc1 hc2 hc3 hc4 hc5) X178_ e178_ K178_ fc179_ V178_' fc180_ N178_
      · let ll25 : Array Slot := #[vJ q1, vS, vI p2, vI p3, vI he, vI up, vI ng, vI 3, vI ss, vJ mg, vS, vR b4_, vR b6_, vU, vU, vU, vU, vU, vU]
        refine jg T37_ mM 164 ll25 [(.int (46 : Int32)), (.int (2 : Int32)), (.ref b4_)] (fun tT kK => ?_) ?_
        · refine XS.aload X37_.here hx rfl (hC at_156) rfl rfl ?_
          refine XS.iconst X37_.here hx rfl (hC at_158) ?_
          refine XS.iload X37_.here hx rfl (hC at_159) rfl ?_
          refine XS.isub X37_.here hx rfl (hC at_161) rfl ?_
          refine XS.bipush X37_.here hx rfl (hC at_162) ?_
          exact kK
        obtain ⟨cl181_, Ar181_, qk181_, Sz181_, Nn181_, Hh181_, Gg181_⟩ := id V37_
        have hin182_ : ¬ ((2 : Int32) < 0 ∨ cl181_.slots.size ≤ ((2 : Int32)).toNatClampNeg) := inb_of Sz181_ ⟨by decide, by decide⟩
        obtain ⟨T182_, h182_, X182_, e182_, W182_, st182_⟩ := stC X37_ hx hZ e37_ Ar181_ (j := (2 : Int32)) hin182_ (g := (mkF mM 164 ll25 [(.int (46 : Int32)), (.int (2 : Int32)), (.ref b4_)])) rfl rfl (hC at_164)
        have V182_ : Arv Z h182_ b4_ k4_ .char (6 : Int32) [(.int c0), (.int c1), (.int (nar .char (46 : Int32))), (.int c3), (.int c4), (.int c5)] (.int (0 : Int32)) := Arv.set Ar181_ qk181_ Sz181_ Nn181_ Hh181_ Gg181_ (fits_nar_char _) W182_ 2 rfl (Nat.le_of_ble_eq_true rfl)
        have fc183_ := fc38_.wr W182_ ge_b4_
        have fc184_ := fc39_.other W182_ (Ne.symm ne7_)
        have K182_ := K37_.wr W182_ (Or.inr sz_b4_)
        have N182_ := Fr.snoc X182_ N37_ ge_b4_
        refine own_fin st182_ ?_
        have V182_' := V182_
        rw [own_n46] at V182_'
        exact jp40_ c0 c1 (46 : Int32) c3 c4 c5 _ _ _ (own_M3 hc0 hc1 hc2 hc3 hc4 hc5) X182_ e182_ K182_ fc183_ V182_' fc184_ N182_
  by_cases hc84_185_ : ng = (0 : Int32)
  · refine jg T6_ mM 93 ll12 [(.int p3), (.int (0 : Int32)), (.ref b4_)] (fun tT kK => ?_) ?_
    · refine XS.ifYes X6_.here hx rfl (pc0 := 84) (pc' := 92) rfl (hC at_84) rfl ((if0 _ _).trans (teq (hc84_185_ : ng = (0 : Int32))).1) (by decide) (by decide) ?_
      show Steps pP.tables eE below (T6_.setTop (mkF mM 92 ll12 [(.int (0 : Int32)), (.ref b4_)])) tT
      refine XS.iloadN X6_.here hx rfl (hC at_92) rfl ?_
      exact kK
    refine jc X6_ hx hZ (y := jy24) hown (jk hw 4 rfl) (jk hw 5 rfl) (jk hw 6 rfl) (jk hw 7 rfl) (rm_nz lL Z a0 hw [] p3 h6_ n0 (Nat.le_trans Z0 K6_.1) ) e6_ own_pd14 [(.int p3)] [(.int (0 : Int32)), (.ref b4_)] (hC at_93) rfl rfl (by rw [hml]; rfl) (by decide) 2 (Nat.le_of_eq rfl) (by decide) (by decide) (by decide : 2 + 0 ≤ _) (by decide : 25 + 0 ≤ _) fun vv186_ T186_ L186_ X186_ hQ186_ => ?_
    obtain ⟨rfl, N186_q, p186__0⟩ := hQ186_
    have N186_ := Fr.app N0 N186_q
    exact jp10_ _ _ _  (own_d0z p3) X186_ p186__0  N186_
  · refine jg T6_ mM 96 ll12 [(.int (45 : Int32)), (.int (0 : Int32)), (.ref b4_)] (fun tT kK => ?_) ?_
    · refine XS.ifNo X6_.here hx rfl (hC at_84) rfl ((if0 _ _).trans (feq (hc84_185_ : ¬ (ng = (0 : Int32)))).1) ?_
      show Steps pP.tables eE below (T6_.setTop (mkF mM 87 ll12 [(.int (0 : Int32)), (.ref b4_)])) tT
      refine XS.bipush X6_.here hx rfl (hC at_87) ?_
      refine XS.goto X6_.here hx rfl (pc0 := 89) (pc' := 96) rfl (hC at_89) (by decide) (by decide) ?_
      exact kK
    exact jp10_ _ _ _  own_d045 X6_ e6_  N0
set_option maxRecDepth 65536 in
set_option maxHeartbeats 40000000 in
theorem comes_1 {Post : Tables → Env → Array Value → State → Outcome → State → Prop} (hpost : ∀ tb e args s v u, (limb_1_1.after args s (.returned v) u = true ∧ limb_1_2.after args s (.returned v) u = true ∧ True) → FrameEnd s (.returned v) u (Jvm.fieldLocs frame_1_writes args s ++ Jvm.arrayLocs frame_1_arrays args s ++ Jvm.staticLocs frame_1_statics s) 16 192 → Post tb e args s (.returned v) u) :
    ArmFor flags0 classFile x code maxLocals ret World_1 tables_1 room_1 Calls_1 rest_1 Pre_1 Post := by
  intro l hfl _ _ p e ha hc hk s m args below hf hA hF happ hP
  obtain ⟨hcalls, hrest, hpre⟩ := hP
  obtain ⟨-, -, -, hnamed, -, -, -, hat⟩ := (Spec.applies_iff hf).mp happ
  obtain ⟨hg, hn⟩ := and_e (Cond.before_iff.mp (show (Jvm.Cond.and given_1 narrow_1).before args s = true from hpre))
  obtain ⟨gg1, gg2⟩ := and_e hg
  obtain ⟨gg3, gg4⟩ := and_e gg2
  obtain ⟨gg5, gg6⟩ := and_e gg4
  obtain ⟨w0, w1, w2, rfl⟩ : ∃ w0 w1 w2 : Value, args = #[w0, w1, w2] := by
    have hs : args.size = 3 := by simpa [Cond.value, given_1] using gg1
    obtain ⟨L⟩ := args
    match L, hs with
    | [w0, w1, w2], _ => exact ⟨w0, w1, w2, rfl⟩
  have hw := fun d (hd : d ∈ tables_1) => atoms_spec (ws := Jvm.Cond.code x code maxLocals ret :: tables_1) hat d (List.mem_cons_of_mem _ hd)
  have hfit : Fit s := fun {y c} hc i hi => by
    obtain ⟨ha, rfl⟩ := Array.getElem?_eq_some_iff.mp hc
    have q := List.all_eq_true.mp ((Array.all_eq_true_iff_forall_mem.mp hF) _ (Array.getElem_mem ha)) i (List.mem_range.mpr hi)
    simpa [Array.getElem?_eq_getElem hi] using q
  obtain ⟨hsets, hown0⟩ := atoms_of _ (rest_1_c_eq ▸ (show rest_1_c.before _ s = true from hrest))
  have hr0 := Cond.before_iff.mp hown0
  obtain ⟨i0, ei0⟩ := isL_v gg3
  obtain rfl : w0 = (.long i0) := Option.some.inj ei0
  obtain ⟨i1, ei1⟩ := is_v gg5
  obtain rfl : w1 = (.int i1) := Option.some.inj ei1
  obtain ⟨i2, ei2⟩ := is_v gg6
  obtain rfl : w2 = (.int i2) := Option.some.inj ei2
  obtain ⟨cs, evcs⟩ := is_v (Cond.before_iff.mp (hsets _ (List.mem_of_getElem? (i := 1) rfl)))
  have hcs := Sta.start evcs (Or.inl (hsets _ (List.mem_of_getElem? (i := 0) rfl)))
  have hncs : ¬ (cs = (0 : Int32)) := own_ncs0 evcs (Cond.before_iff.mp (hsets _ (List.mem_of_getElem? (i := 2) rfl)))
  obtain ⟨fv, evfv, hrfv⟩ := isR_v (Cond.before_iff.mp (hsets _ (List.mem_of_getElem? (i := 8) rfl)))
  have hfv := Sta.start evfv (Or.inl (hsets _ (List.mem_of_getElem? (i := 7) rfl)))
  obtain ⟨n, o, h1, h2, h3, _, L, rfl, ⟨rfl, N⟩, hq⟩ := rm0 l s _ hw tables_1 i0 i1 i2 cs fv s.heap s.heap.size (Nat.le_refl _) (Old.start s) hcs hncs hfv hrfv p e ha hc hk s m _ below hf ((Spec.applies_iff_loose hf).mp happ).1 ⟨rfl, State.Warmed39.refl s, rfl⟩ trivial
  refine ⟨n, _, h1, h2, h3, hpost _ _ _ _ _ _ ⟨Cond.after_iff.mpr rfl, Cond.after_iff.mpr (eq_i res_at (Term.int_eval (1)) rfl), trivial⟩ ⟨hq.1, hq.2.1, (hq.2.2.sift fun y hy => Or.inr (N y hy)).mono (by decide) (by decide)⟩⟩
theorem main_1_1 : Claimed_1_1 := comes_1 fun _ _ _ _ _ _ h hF => ⟨h.1, hF⟩
theorem main_1_2 : Claimed_1_2 := comes_1 fun _ _ _ _ _ _ h hF => ⟨h.2.1, hF⟩
end Jvm.Pilot.@@N@@
namespace Jvm.Pilot.@@N@@
open Jvm Jvm.ClassFile Sem Op Lib Jvm.Free Jvm.Stand Jvm.Pilot.@@N@@.Jvm.D
/-! MADE BY PROGRAM (witnessworld.py) out of the Statement's table words and the real class files: 21 classes; the members and pool entries that the words name. The judged class is class 1, her method 1. -/
namespace start1
open Jvm.ClassFile
def u (s : String) : CpInfo := .utf8 (stringToUtf16 s)
/-- a pool by its gaps: so many unusable entries, then the entry; so many at the end -/
def gap : Nat → List CpInfo → List CpInfo
  | 0, r => r
  | n + 1, r => .unusable :: gap n r
def poolList (es : List (Nat × CpInfo)) (last : Nat) : List CpInfo := es.foldr (fun e r => gap e.1 (e.2 :: r)) (gap last [])
def pool (es : List (Nat × CpInfo)) (last : Nat) : Array CpInfo := ⟨poolList es last⟩
def fileOf (pool : Array CpInfo) (this : Nat) (attrs : Array Attribute := #[]) (ms : Array MethodInfo := #[]) (fl : Nat := 33) (sup : Nat := 0) (ifs : Array Nat := #[]) (fds : Array FieldInfo := #[]) : ClassFile where
  minorVersion := 0
  majorVersion := 65
  constantPool := pool
  accessFlags := fl
  thisClass := this
  superClass := sup
  interfaces := ifs
  fields := fds
  methods := ms
  attributes := attrs
def plain (name : String) (sup : Option ClassId) : Class where
  name := name
  kind := .ordinary
  loader := none
  accessFlags := 33
  super := sup
  interfaces := #[]
  cf := none
  fields := #[]
  methods := #[]
  instanceTypes := #[]
  staticTypes := #[]
  resolved := #[]
  callSites := []
  init := .initialized
  statics := none
  mirror := none

def pool0 : Array CpInfo := pool [(5, u "<init>"), (0, u "()V"), (1, .class_ 10), (1, u "java/lang/Object")] 113

def k0c0 : Code := { maxStack := 0, maxLocals := 1, code := object_method_1_code, exceptionTable := #[], attributes := #[] }
def k0m0 : Method := { name := "<init>", desc := "()V", sig := { parameters := [], returnType := none }, accessFlags := 1, code := some k0c0 }
/-- java/lang/Object -/
def k0 : Class := { plain "java/lang/Object" none with
  accessFlags := 33
  interfaces := #[]
  cf := some (fileOf pool0 8 #[] #[{ accessFlags := 1, nameIndex := 5, descriptorIndex := 6, attributes := #[] }] 33 0 #[] #[])
  fields := #[]
  methods := #[k0m0]
  instanceTypes := #[]
  staticTypes := #[]
  resolved := Array.replicate 124 none
  statics := none }

def pool1 : Array CpInfo := pool [(2, .class_ 4), (1, u "java/lang/Object"), (0, u "<init>"), (0, u "()V"), (0, .integer 65535), (2, .long 9223372036854775807), (1, .long 100000000000), (1, .methodref 15 16), (0, .class_ 17), (0, .nameAndType 18 19), (0, u "com/example/vestwright/vestwright/InputNumbersIsInRangePinLaw"), (0, u "nonZero"), (0, u "(I)C"), (0, .methodref 15 21), (0, .nameAndType 22 19), (0, u "dig"), (0, .long 10000000000), (1, .methodref 15 26), (0, .nameAndType 27 28), (0, u "dec"), (0, u "(JJ)C"), (0, .long 1000000000), (1, .long 100000000), (1, .long 10000000), (1, .long 1000000), (1, .long 100000), (1, .long 10000), (1, .long 1000), (1, .long 100), (1, .long 10), (1, .class_ 48), (0, u "java/lang/String"), (0, .methodref 47 50), (0, .nameAndType 5 51), (0, u "([C)V"), (2, .long 18446744071562067968), (1, .long 2147483647), (1, .methodref 59 60), (0, .class_ 61), (0, .nameAndType 62 63), (0, u "com/example/vestwright/vestwright/InputNumbers"), (0, u "isInRange"), (0, u "(Ljava/lang/String;)Z"), (2, u "law"), (0, u "(JII)Z")] 5

def k1m0 : Method := { name := "<init>", desc := "()V", sig := { parameters := [], returnType := none }, accessFlags := 1, code := none }
def k1c1 : Code := { maxStack := 6, maxLocals := 19, code := code, exceptionTable := #[], attributes := #[] }
def k1m1 : Method := { name := "law", desc := "(JII)Z", sig := { parameters := [.long, .int, .int], returnType := some .boolean }, accessFlags := 9, code := some k1c1 }
def k1c2 : Code := { maxStack := 3, maxLocals := 1, code := method_3_code, exceptionTable := #[], attributes := #[] }
def k1m2 : Method := { name := "nonZero", desc := "(I)C", sig := { parameters := [.int], returnType := some .char }, accessFlags := 10, code := some k1c2 }
def k1c3 : Code := { maxStack := 3, maxLocals := 1, code := method_4_code, exceptionTable := #[], attributes := #[] }
def k1m3 : Method := { name := "dig", desc := "(I)C", sig := { parameters := [.int], returnType := some .char }, accessFlags := 10, code := some k1c3 }
def k1c4 : Code := { maxStack := 5, maxLocals := 4, code := method_5_code, exceptionTable := #[], attributes := #[] }
def k1m4 : Method := { name := "dec", desc := "(JJ)C", sig := { parameters := [.long, .long], returnType := some .char }, accessFlags := 10, code := some k1c4 }
/-- com/example/vestwright/vestwright/InputNumbersIsInRangePinLaw -/
def k1 : Class := { plain "com/example/vestwright/vestwright/InputNumbersIsInRangePinLaw" (some 0) with
  accessFlags := 49
  interfaces := #[]
  cf := some (fileOf pool1 15 #[] #[{ accessFlags := 1, nameIndex := 5, descriptorIndex := 6, attributes := #[] }, { accessFlags := 9, nameIndex := 66, descriptorIndex := 67, attributes := #[] }, { accessFlags := 10, nameIndex := 18, descriptorIndex := 19, attributes := #[] }, { accessFlags := 10, nameIndex := 22, descriptorIndex := 19, attributes := #[] }, { accessFlags := 10, nameIndex := 27, descriptorIndex := 28, attributes := #[] }] 49 2 #[] #[])
  fields := #[]
  methods := #[k1m0, k1m1, k1m2, k1m3, k1m4]
  instanceTypes := #[]
  staticTypes := #[]
  resolved := Array.replicate 73 none
  statics := none }

def pool2 : Array CpInfo := pool [(1, .class_ 2), (0, u "java/io/Serializable"), (0, .class_ 4), (0, u "java/lang/Object")] 2

/-- java/io/Serializable -/
def k2 : Class := { plain "java/io/Serializable" (some 0) with
  accessFlags := 1537
  interfaces := #[]
  cf := some (fileOf pool2 1 #[] #[] 1537 3 #[] #[])
  fields := #[]
  methods := #[]
  instanceTypes := #[]
  staticTypes := #[]
  resolved := Array.replicate 7 none
  statics := none }

def pool3 : Array CpInfo := pool [(1, .class_ 2), (0, u "java/lang/Comparable"), (0, .class_ 4), (0, u "java/lang/Object")] 7

/-- java/lang/Comparable -/
def k3 : Class := { plain "java/lang/Comparable" (some 0) with
  accessFlags := 1537
  interfaces := #[]
  cf := some (fileOf pool3 1 #[] #[] 1537 3 #[] #[])
  fields := #[]
  methods := #[]
  instanceTypes := #[]
  staticTypes := #[]
  resolved := Array.replicate 12 none
  statics := none }

def pool4 : Array CpInfo := pool [(2, .class_ 4), (1, u "java/lang/CharSequence"), (42, .class_ 48), (0, u "java/lang/CharSequence$1CodePointIterator"), (10, .class_ 60), (0, u "java/lang/CharSequence$1CharIterator"), (5, .class_ 67), (0, u "java/lang/Object")] 63

/-- java/lang/CharSequence -/
def k4 : Class := { plain "java/lang/CharSequence" (some 0) with
  accessFlags := 1537
  interfaces := #[]
  cf := some (fileOf pool4 2 #[.nestMembers #[47, 59]] #[] 1537 66 #[] #[])
  fields := #[]
  methods := #[]
  instanceTypes := #[]
  staticTypes := #[]
  resolved := Array.replicate 131 none
  statics := none }

def pool5 : Array CpInfo := pool [(1, .class_ 2), (0, u "java/lang/constant/Constable"), (0, .class_ 4), (0, u "java/lang/Object")] 6

/-- java/lang/constant/Constable -/
def k5 : Class := { plain "java/lang/constant/Constable" (some 0) with
  accessFlags := 1537
  interfaces := #[]
  cf := some (fileOf pool5 1 #[] #[] 1537 3 #[] #[])
  fields := #[]
  methods := #[]
  instanceTypes := #[]
  staticTypes := #[]
  resolved := Array.replicate 11 none
  statics := none }

def pool6 : Array CpInfo := pool [(1, .class_ 2), (0, u "java/lang/constant/ConstantDesc"), (0, .class_ 4), (0, u "java/lang/Object")] 32

/-- java/lang/constant/ConstantDesc -/
def k6 : Class := { plain "java/lang/constant/ConstantDesc" (some 0) with
  accessFlags := 1537
  interfaces := #[]
  cf := some (fileOf pool6 1 #[] #[] 1537 3 #[] #[])
  fields := #[]
  methods := #[]
  instanceTypes := #[]
  staticTypes := #[]
  resolved := Array.replicate 37 none
  statics := none }

def pool7 : Array CpInfo := pool [(1, .methodref 2 3), (0, .class_ 4), (0, .nameAndType 5 6), (0, u "java/lang/Object"), (0, u "<init>"), (0, u "()V"), (2, .fieldref 10 11), (0, .class_ 12), (0, .nameAndType 13 14), (0, u "java/lang/String"), (0, u "value"), (0, u "[B"), (0, .fieldref 10 16), (0, .nameAndType 17 18), (0, u "coder"), (0, u "B"), (2, u "hash"), (0, u "I"), (2, u "hashIsZero"), (0, u "Z"), (0, .methodref 10 28), (0, .nameAndType 5 29), (0, u "([CIILjava/lang/Void;)V"), (8, .fieldref 10 39), (0, .nameAndType 40 26), (0, u "COMPACT_STRINGS"), (1, .class_ 44), (1, u "java/lang/StringUTF16"), (0, u "compress"), (1, .methodref 42 48), (0, .nameAndType 49 50), (0, u "coderFromArrayLen"), (0, u "([BI)B"), (56, .class_ 109), (1, u "java/lang/StringLatin1"), (32, u "()Z"), (34, .methodref 42 178), (0, .nameAndType 45 179), (0, u "([CII)[B"), (154, u "()I"), (0, .methodref 10 336), (0, .nameAndType 17 337), (0, u "()B"), (25, u "([BI)C"), (27, u "(II)V"), (35, u "(I)C"), (64, .methodref 10 493), (0, .nameAndType 494 142), (0, u "isLatin1"), (0, .methodref 107 496), (0, .nameAndType 497 363), (0, u "charAt"), (3, u "checkIndex"), (3, .methodref 10 506), (0, .nameAndType 507 334), (0, u "length"), (67, .class_ 576), (0, u "java/lang/CharSequence"), (22, u "CASE_INSENSITIVE_ORDER"), (0, u "Ljava/util/Comparator;"), (32, .methodref 10 634), (0, .nameAndType 635 636), (0, u "indexOf"), (0, u "(II)I"), (0, .methodref 107 638), (0, .nameAndType 635 639), (0, u "([BIII)I"), (125, u "(I)I"), (244, u "([C)V"), (42, .fieldref 1054 1055), (0, .class_ 1056), (0, .nameAndType 1057 1058), (0, u "jdk/internal/util/Preconditions"), (0, u "SIOOBE_FORMATTER"), (0, u "Ljava/util/function/BiFunction;"), (0, .methodref 1054 1060), (0, .nameAndType 501 1061), (0, u "(IILjava/util/function/BiFunction;)I"), (39, u "serialPersistentFields"), (0, u "[Ljava/io/ObjectStreamField;"), (0, .class_ 1104), (0, u "java/lang/String$CaseInsensitiveComparator"), (1, .class_ 1107), (0, u "java/io/Serializable"), (0, .class_ 1109), (0, u "java/lang/Comparable"), (0, .class_ 1111), (0, u "java/lang/constant/Constable"), (0, .class_ 1113), (0, u "java/lang/constant/ConstantDesc"), (2, u "serialVersionUID"), (0, u "J"), (3, u "REPL"), (0, u "C"), (2, u "LATIN1"), (1, u "UTF16")] 323

def k7m0 : Method := { name := "<init>", desc := "()V", sig := { parameters := [], returnType := none }, accessFlags := 1, code := none }
def k7c1 : Code := { maxStack := 5, maxLocals := 2, code := jdk_42_method_3_code, exceptionTable := #[], attributes := #[] }
def k7m1 : Method := { name := "<init>", desc := "([C)V", sig := { parameters := [(.array .char)], returnType := none }, accessFlags := 1, code := some k7c1 }
def k7c2 : Code := { maxStack := 2, maxLocals := 1, code := jdk_42_method_54_code, exceptionTable := #[], attributes := #[] }
def k7m2 : Method := { name := "length", desc := "()I", sig := { parameters := [], returnType := some .int }, accessFlags := 1, code := some k7c2 }
def k7c3 : Code := { maxStack := 2, maxLocals := 2, code := jdk_42_method_56_code, exceptionTable := #[], attributes := #[] }
def k7m3 : Method := { name := "charAt", desc := "(I)C", sig := { parameters := [.int], returnType := some .char }, accessFlags := 1, code := some k7c3 }
def k7c4 : Code := { maxStack := 3, maxLocals := 2, code := jdk_42_method_79_code, exceptionTable := #[], attributes := #[] }
def k7m4 : Method := { name := "indexOf", desc := "(I)I", sig := { parameters := [.int], returnType := some .int }, accessFlags := 1, code := some k7c4 }
def k7c5 : Code := { maxStack := 4, maxLocals := 3, code := jdk_42_method_80_code, exceptionTable := #[], attributes := #[] }
def k7m5 : Method := { name := "indexOf", desc := "(II)I", sig := { parameters := [.int, .int], returnType := some .int }, accessFlags := 1, code := some k7c5 }
def k7c6 : Code := { maxStack := 4, maxLocals := 6, code := jdk_42_method_149_code, exceptionTable := #[], attributes := #[] }
def k7m6 : Method := { name := "<init>", desc := "([CIILjava/lang/Void;)V", sig := { parameters := [(.array .char), .int, .int, (.object "java/lang/Void")], returnType := none }, accessFlags := 2, code := some k7c6 }
def k7c7 : Code := { maxStack := 1, maxLocals := 1, code := jdk_42_method_152_code, exceptionTable := #[], attributes := #[] }
def k7m7 : Method := { name := "coder", desc := "()B", sig := { parameters := [], returnType := some .byte }, accessFlags := 0, code := some k7c7 }
def k7c8 : Code := { maxStack := 1, maxLocals := 1, code := jdk_42_method_154_code, exceptionTable := #[], attributes := #[] }
def k7m8 : Method := { name := "isLatin1", desc := "()Z", sig := { parameters := [], returnType := some .boolean }, accessFlags := 0, code := some k7c8 }
def k7c9 : Code := { maxStack := 3, maxLocals := 2, code := jdk_42_method_155_code, exceptionTable := #[], attributes := #[] }
def k7m9 : Method := { name := "checkIndex", desc := "(II)V", sig := { parameters := [.int, .int], returnType := none }, accessFlags := 8, code := some k7c9 }
/-- java/lang/String -/
def k7 : Class := { plain "java/lang/String" (some 0) with
  accessFlags := 49
  interfaces := #[2, 3, 4, 5, 6]
  cf := some (fileOf pool7 10 #[.nestMembers #[1103]] #[{ accessFlags := 1, nameIndex := 5, descriptorIndex := 6, attributes := #[] }, { accessFlags := 1, nameIndex := 5, descriptorIndex := 1010, attributes := #[] }, { accessFlags := 1, nameIndex := 507, descriptorIndex := 334, attributes := #[] }, { accessFlags := 1, nameIndex := 497, descriptorIndex := 427, attributes := #[] }, { accessFlags := 1, nameIndex := 635, descriptorIndex := 765, attributes := #[] }, { accessFlags := 1, nameIndex := 635, descriptorIndex := 636, attributes := #[] }, { accessFlags := 2, nameIndex := 5, descriptorIndex := 29, attributes := #[] }, { accessFlags := 0, nameIndex := 17, descriptorIndex := 337, attributes := #[] }, { accessFlags := 0, nameIndex := 494, descriptorIndex := 142, attributes := #[] }, { accessFlags := 8, nameIndex := 501, descriptorIndex := 391, attributes := #[] }] 49 2 #[1106, 1108, 575, 1110, 1112] #[{ accessFlags := 18, nameIndex := 13, descriptorIndex := 14, attributes := #[] }, { accessFlags := 18, nameIndex := 17, descriptorIndex := 18, attributes := #[] }, { accessFlags := 2, nameIndex := 21, descriptorIndex := 22, attributes := #[] }, { accessFlags := 2, nameIndex := 25, descriptorIndex := 26, attributes := #[] }, { accessFlags := 26, nameIndex := 1116, descriptorIndex := 1117, attributes := #[] }, { accessFlags := 24, nameIndex := 40, descriptorIndex := 26, attributes := #[] }, { accessFlags := 26, nameIndex := 1101, descriptorIndex := 1102, attributes := #[] }, { accessFlags := 26, nameIndex := 1121, descriptorIndex := 1122, attributes := #[] }, { accessFlags := 25, nameIndex := 599, descriptorIndex := 600, attributes := #[] }, { accessFlags := 24, nameIndex := 1125, descriptorIndex := 18, attributes := #[] }, { accessFlags := 24, nameIndex := 1127, descriptorIndex := 18, attributes := #[] }])
  fields := #[{ name := "value", type := (.array .byte), accessFlags := 18, slot := 0, constantValue := 0 }, { name := "coder", type := .byte, accessFlags := 18, slot := 1, constantValue := 0 }, { name := "hash", type := .int, accessFlags := 2, slot := 2, constantValue := 0 }, { name := "hashIsZero", type := .boolean, accessFlags := 2, slot := 3, constantValue := 0 }, { name := "serialVersionUID", type := .long, accessFlags := 26, slot := 0, constantValue := 0 }, { name := "COMPACT_STRINGS", type := .boolean, accessFlags := 24, slot := 1, constantValue := 0 }, { name := "serialPersistentFields", type := (.array (.object "java/io/ObjectStreamField")), accessFlags := 26, slot := 2, constantValue := 0 }, { name := "REPL", type := .char, accessFlags := 26, slot := 3, constantValue := 0 }, { name := "CASE_INSENSITIVE_ORDER", type := (.object "java/util/Comparator"), accessFlags := 25, slot := 4, constantValue := 0 }, { name := "LATIN1", type := .byte, accessFlags := 24, slot := 5, constantValue := 0 }, { name := "UTF16", type := .byte, accessFlags := 24, slot := 6, constantValue := 0 }]
  methods := #[k7m0, k7m1, k7m2, k7m3, k7m4, k7m5, k7m6, k7m7, k7m8, k7m9]
  instanceTypes := #[(.array .byte), .byte, .int, .boolean]
  staticTypes := #[.long, .boolean, (.array (.object "java/io/ObjectStreamField")), .char, (.object "java/util/Comparator"), .byte, .byte]
  resolved := Array.replicate 1451 none
  statics := some 0 }

def pool8 : Array CpInfo := pool [(6, .class_ 8), (1, u "java/lang/Object"), (0, u "<init>"), (0, u "()V"), (1, .class_ 14), (1, u "java/lang/StringUTF16"), (31, u "$assertionsDisabled"), (0, u "Z"), (13, u "HI_BYTE_SHIFT"), (0, u "I"), (2, u "LO_BYTE_SHIFT"), (49, .methodref 12 116), (0, .nameAndType 117 118), (0, u "compress"), (0, u "([CI[BII)I"), (3, u "([CII)[B"), (138, u "coderFromArrayLen"), (0, u "([BI)B"), (106, .class_ 371), (1, u "java/lang/StringUTF16$LinesSpliterator"), (58, u "MAX_LENGTH"), (196, .class_ 628), (0, u "java/lang/StringUTF16$CodePointsSpliterator"), (0, .class_ 630), (0, u "java/lang/StringUTF16$CharsSpliterator")] 4

def k8m0 : Method := { name := "<init>", desc := "()V", sig := { parameters := [], returnType := none }, accessFlags := 0, code := none }
def k8c1 : Code := { maxStack := 2, maxLocals := 2, code := jdk_52_method_15_code, exceptionTable := #[], attributes := #[] }
def k8m1 : Method := { name := "coderFromArrayLen", desc := "([BI)B", sig := { parameters := [(.array .byte), .int], returnType := some .byte }, accessFlags := 8, code := some k8c1 }
def k8c2 : Code := { maxStack := 5, maxLocals := 6, code := jdk_52_method_16_code, exceptionTable := #[], attributes := #[] }
def k8m2 : Method := { name := "compress", desc := "([CII)[B", sig := { parameters := [(.array .char), .int, .int], returnType := some (.array .byte) }, accessFlags := 9, code := some k8c2 }
def k8c3 : Code := { maxStack := 3, maxLocals := 7, code := jdk_52_method_21_code, exceptionTable := #[], attributes := #[] }
def k8m3 : Method := { name := "compress", desc := "([CI[BII)I", sig := { parameters := [(.array .char), .int, (.array .byte), .int, .int], returnType := some .int }, accessFlags := 9, code := some k8c3 }
/-- java/lang/StringUTF16 -/
def k8 : Class := { plain "java/lang/StringUTF16" (some 0) with
  accessFlags := 48
  interfaces := #[]
  cf := some (fileOf pool8 12 #[.nestMembers #[627, 629, 369]] #[{ accessFlags := 0, nameIndex := 9, descriptorIndex := 10, attributes := #[] }, { accessFlags := 8, nameIndex := 261, descriptorIndex := 262, attributes := #[] }, { accessFlags := 9, nameIndex := 117, descriptorIndex := 122, attributes := #[] }, { accessFlags := 9, nameIndex := 117, descriptorIndex := 118, attributes := #[] }] 48 6 #[] #[{ accessFlags := 26, nameIndex := 61, descriptorIndex := 62, attributes := #[] }, { accessFlags := 26, nameIndex := 65, descriptorIndex := 62, attributes := #[] }, { accessFlags := 24, nameIndex := 430, descriptorIndex := 62, attributes := #[] }, { accessFlags := 4120, nameIndex := 46, descriptorIndex := 47, attributes := #[] }])
  fields := #[{ name := "HI_BYTE_SHIFT", type := .int, accessFlags := 26, slot := 0, constantValue := 0 }, { name := "LO_BYTE_SHIFT", type := .int, accessFlags := 26, slot := 1, constantValue := 0 }, { name := "MAX_LENGTH", type := .int, accessFlags := 24, slot := 2, constantValue := 0 }, { name := "$assertionsDisabled", type := .boolean, accessFlags := 4120, slot := 3, constantValue := 0 }]
  methods := #[k8m0, k8m1, k8m2, k8m3]
  instanceTypes := #[]
  staticTypes := #[.int, .int, .int, .boolean]
  resolved := Array.replicate 635 none
  statics := none }

def pool9 : Array CpInfo := pool [(2, .class_ 4), (1, u "java/lang/Object"), (0, u "<init>"), (0, u "()V"), (1, .class_ 10), (1, u "com/example/vestwright/vestwright/InputNumbers"), (1, u "(Ljava/lang/String;)Z"), (13, .methodref 8 27), (0, .nameAndType 28 29), (0, u "exponentMark"), (0, u "(Ljava/lang/String;)I"), (0, .methodref 8 31), (0, .nameAndType 32 33), (0, u "exponent"), (0, u "(Ljava/lang/String;I)J"), (0, .methodref 8 35), (0, .nameAndType 36 33), (0, u "decimals"), (7, .long 10), (8, .methodref 54 55), (0, .class_ 56), (0, .nameAndType 57 58), (0, u "java/lang/String"), (0, u "charAt"), (0, u "(I)C"), (1, .class_ 62), (1, u "java/lang/Math"), (1, u "(JJ)J"), (0, .methodref 54 66), (0, .nameAndType 67 68), (0, u "indexOf"), (0, u "(I)I"), (0, .methodref 54 70), (0, .nameAndType 71 72), (0, u "length"), (0, u "()I"), (0, .long 48), (1, .long 10000000000), (1, .methodref 60 78), (0, .nameAndType 79 64), (0, u "min"), (65, u "MAX_WHOLE_DIGITS"), (0, u "I"), (2, u "MAX_DECIMALS"), (1, u "CENTS"), (1, u "MAX_COUNT"), (1, u "EXPONENT_CAP"), (0, u "J"), (5, u "isInRange")] 36

def k9m0 : Method := { name := "<init>", desc := "()V", sig := { parameters := [], returnType := none }, accessFlags := 2, code := none }
def k9c1 : Code := { maxStack := 4, maxLocals := 6, code := prog_5_method_4_code, exceptionTable := #[], attributes := #[] }
def k9m1 : Method := { name := "isInRange", desc := "(Ljava/lang/String;)Z", sig := { parameters := [(.object "java/lang/String")], returnType := some .boolean }, accessFlags := 8, code := some k9c1 }
def k9c2 : Code := { maxStack := 4, maxLocals := 3, code := prog_5_method_7_code, exceptionTable := #[], attributes := #[] }
def k9m2 : Method := { name := "decimals", desc := "(Ljava/lang/String;I)J", sig := { parameters := [(.object "java/lang/String"), .int], returnType := some .long }, accessFlags := 10, code := some k9c2 }
def k9c3 : Code := { maxStack := 4, maxLocals := 6, code := prog_5_method_8_code, exceptionTable := #[], attributes := #[] }
def k9m3 : Method := { name := "exponent", desc := "(Ljava/lang/String;I)J", sig := { parameters := [(.object "java/lang/String"), .int], returnType := some .long }, accessFlags := 10, code := some k9c3 }
def k9c4 : Code := { maxStack := 2, maxLocals := 4, code := prog_5_method_9_code, exceptionTable := #[], attributes := #[] }
def k9m4 : Method := { name := "exponentMark", desc := "(Ljava/lang/String;)I", sig := { parameters := [(.object "java/lang/String")], returnType := some .int }, accessFlags := 10, code := some k9c4 }
/-- com/example/vestwright/vestwright/InputNumbers -/
def k9 : Class := { plain "com/example/vestwright/vestwright/InputNumbers" (some 0) with
  accessFlags := 33
  interfaces := #[]
  cf := some (fileOf pool9 8 #[] #[{ accessFlags := 2, nameIndex := 5, descriptorIndex := 6, attributes := #[] }, { accessFlags := 8, nameIndex := 162, descriptorIndex := 12, attributes := #[] }, { accessFlags := 10, nameIndex := 36, descriptorIndex := 33, attributes := #[] }, { accessFlags := 10, nameIndex := 32, descriptorIndex := 33, attributes := #[] }, { accessFlags := 10, nameIndex := 28, descriptorIndex := 29, attributes := #[] }] 33 2 #[] #[{ accessFlags := 26, nameIndex := 145, descriptorIndex := 146, attributes := #[] }, { accessFlags := 26, nameIndex := 149, descriptorIndex := 146, attributes := #[] }, { accessFlags := 26, nameIndex := 151, descriptorIndex := 146, attributes := #[] }, { accessFlags := 26, nameIndex := 153, descriptorIndex := 146, attributes := #[] }, { accessFlags := 26, nameIndex := 155, descriptorIndex := 156, attributes := #[] }])
  fields := #[{ name := "MAX_WHOLE_DIGITS", type := .int, accessFlags := 26, slot := 0, constantValue := 0 }, { name := "MAX_DECIMALS", type := .int, accessFlags := 26, slot := 1, constantValue := 0 }, { name := "CENTS", type := .int, accessFlags := 26, slot := 2, constantValue := 0 }, { name := "MAX_COUNT", type := .int, accessFlags := 26, slot := 3, constantValue := 0 }, { name := "EXPONENT_CAP", type := .long, accessFlags := 26, slot := 4, constantValue := 0 }]
  methods := #[k9m0, k9m1, k9m2, k9m3, k9m4]
  instanceTypes := #[]
  staticTypes := #[.int, .int, .int, .int, .long]
  resolved := Array.replicate 199 none
  statics := none }

def pool10 : Array CpInfo := pool [(1, .class_ 2), (0, u "java/lang/String"), (1, .class_ 6), (1, u "java/lang/Object"), (0, u "<init>"), (0, u "()V"), (0, .methodref 1 10), (0, .nameAndType 11 12), (0, u "checkIndex"), (0, u "(II)V"), (1, .class_ 16), (1, u "java/lang/StringLatin1"), (21, .methodref 39 40), (0, .class_ 41), (0, .nameAndType 42 43), (0, u "java/lang/Math"), (0, u "min"), (0, u "(II)I"), (9, u "([BI)C"), (34, .methodref 14 89), (0, .nameAndType 90 91), (0, u "canEncode"), (0, u "(I)Z"), (0, .methodref 39 93), (0, .nameAndType 94 43), (0, u "max"), (0, .methodref 14 96), (0, .nameAndType 97 98), (0, u "indexOfChar"), (0, u "([BIII)I"), (2, u "indexOf"), (19, u "$assertionsDisabled"), (0, u "Z"), (98, .class_ 223), (1, u "java/lang/StringLatin1$LinesSpliterator"), (28, u "charAt"), (137, .class_ 391), (0, u "java/lang/StringLatin1$CharsSpliterator")] 3

def k10m0 : Method := { name := "<init>", desc := "()V", sig := { parameters := [], returnType := none }, accessFlags := 0, code := none }
def k10c1 : Code := { maxStack := 2, maxLocals := 2, code := jdk_43_method_2_code, exceptionTable := #[], attributes := #[] }
def k10m1 : Method := { name := "charAt", desc := "([BI)C", sig := { parameters := [(.array .byte), .int], returnType := some .char }, accessFlags := 9, code := some k10c1 }
def k10c2 : Code := { maxStack := 2, maxLocals := 1, code := jdk_43_method_4_code, exceptionTable := #[], attributes := #[] }
def k10m2 : Method := { name := "canEncode", desc := "(I)Z", sig := { parameters := [.int], returnType := some .boolean }, accessFlags := 9, code := some k10c2 }
def k10c3 : Code := { maxStack := 4, maxLocals := 4, code := jdk_43_method_22_code, exceptionTable := #[], attributes := #[] }
def k10m3 : Method := { name := "indexOf", desc := "([BIII)I", sig := { parameters := [(.array .byte), .int, .int, .int], returnType := some .int }, accessFlags := 9, code := some k10c3 }
def k10c4 : Code := { maxStack := 2, maxLocals := 6, code := jdk_43_method_23_code, exceptionTable := #[], attributes := #[] }
def k10m4 : Method := { name := "indexOfChar", desc := "([BIII)I", sig := { parameters := [(.array .byte), .int, .int, .int], returnType := some .int }, accessFlags := 10, code := some k10c4 }
/-- java/lang/StringLatin1 -/
def k10 : Class := { plain "java/lang/StringLatin1" (some 0) with
  accessFlags := 48
  interfaces := #[]
  cf := some (fileOf pool10 14 #[.nestMembers #[390, 221]] #[{ accessFlags := 0, nameIndex := 7, descriptorIndex := 8, attributes := #[] }, { accessFlags := 9, nameIndex := 252, descriptorIndex := 53, attributes := #[] }, { accessFlags := 9, nameIndex := 90, descriptorIndex := 91, attributes := #[] }, { accessFlags := 9, nameIndex := 101, descriptorIndex := 98, attributes := #[] }, { accessFlags := 10, nameIndex := 97, descriptorIndex := 98, attributes := #[] }] 48 4 #[] #[{ accessFlags := 4120, nameIndex := 121, descriptorIndex := 122, attributes := #[] }])
  fields := #[{ name := "$assertionsDisabled", type := .boolean, accessFlags := 4120, slot := 0, constantValue := 0 }]
  methods := #[k10m0, k10m1, k10m2, k10m3, k10m4]
  instanceTypes := #[]
  staticTypes := #[.boolean]
  resolved := Array.replicate 395 none
  statics := none }

def pool11 : Array CpInfo := pool [(1, .class_ 2), (0, u "java/lang/Math"), (1, .class_ 6), (1, u "java/lang/Object"), (0, u "<init>"), (0, u "()V"), (89, .class_ 100), (1, u "java/lang/Math$RandomNumberGeneratorHolder"), (20, u "(JJ)J"), (50, u "negativeZeroFloatBits"), (0, u "J"), (2, u "negativeZeroDoubleBits"), (21, u "max"), (2, u "min"), (43, u "$assertionsDisabled"), (0, u "Z"), (88, u "(II)I"), (2, u "twoToTheDoubleScaleDown"), (0, u "D"), (4, u "twoToTheDoubleScaleUp"), (9, u "E"), (3, u "PI"), (2, u "TAU"), (2, u "DEGREES_TO_RADIANS"), (0, u "RADIANS_TO_DEGREES")] 94

def k11m0 : Method := { name := "<init>", desc := "()V", sig := { parameters := [], returnType := none }, accessFlags := 2, code := none }
def k11c1 : Code := { maxStack := 2, maxLocals := 2, code := jdk_29_method_65_code, exceptionTable := #[], attributes := #[] }
def k11m1 : Method := { name := "max", desc := "(II)I", sig := { parameters := [.int, .int], returnType := some .int }, accessFlags := 9, code := some k11c1 }
def k11c2 : Code := { maxStack := 2, maxLocals := 2, code := jdk_29_method_69_code, exceptionTable := #[], attributes := #[] }
def k11m2 : Method := { name := "min", desc := "(II)I", sig := { parameters := [.int, .int], returnType := some .int }, accessFlags := 9, code := some k11c2 }
def k11c3 : Code := { maxStack := 4, maxLocals := 4, code := jdk_29_method_70_code, exceptionTable := #[], attributes := #[] }
def k11m3 : Method := { name := "min", desc := "(JJ)J", sig := { parameters := [.long, .long], returnType := some .long }, accessFlags := 9, code := some k11c3 }
/-- java/lang/Math -/
def k11 : Class := { plain "java/lang/Math" (some 0) with
  accessFlags := 49
  interfaces := #[]
  cf := some (fileOf pool11 1 #[.nestMembers #[98]] #[{ accessFlags := 2, nameIndex := 7, descriptorIndex := 8, attributes := #[] }, { accessFlags := 9, nameIndex := 198, descriptorIndex := 335, attributes := #[] }, { accessFlags := 9, nameIndex := 201, descriptorIndex := 335, attributes := #[] }, { accessFlags := 9, nameIndex := 201, descriptorIndex := 121, attributes := #[] }] 49 4 #[] #[{ accessFlags := 25, nameIndex := 354, descriptorIndex := 339, attributes := #[] }, { accessFlags := 25, nameIndex := 358, descriptorIndex := 339, attributes := #[] }, { accessFlags := 25, nameIndex := 361, descriptorIndex := 339, attributes := #[] }, { accessFlags := 26, nameIndex := 364, descriptorIndex := 339, attributes := #[] }, { accessFlags := 26, nameIndex := 365, descriptorIndex := 339, attributes := #[] }, { accessFlags := 26, nameIndex := 172, descriptorIndex := 173, attributes := #[] }, { accessFlags := 26, nameIndex := 176, descriptorIndex := 173, attributes := #[] }, { accessFlags := 8, nameIndex := 344, descriptorIndex := 339, attributes := #[] }, { accessFlags := 8, nameIndex := 338, descriptorIndex := 339, attributes := #[] }, { accessFlags := 4120, nameIndex := 245, descriptorIndex := 246, attributes := #[] }])
  fields := #[{ name := "E", type := .double, accessFlags := 25, slot := 0, constantValue := 0 }, { name := "PI", type := .double, accessFlags := 25, slot := 1, constantValue := 0 }, { name := "TAU", type := .double, accessFlags := 25, slot := 2, constantValue := 0 }, { name := "DEGREES_TO_RADIANS", type := .double, accessFlags := 26, slot := 3, constantValue := 0 }, { name := "RADIANS_TO_DEGREES", type := .double, accessFlags := 26, slot := 4, constantValue := 0 }, { name := "negativeZeroFloatBits", type := .long, accessFlags := 26, slot := 5, constantValue := 0 }, { name := "negativeZeroDoubleBits", type := .long, accessFlags := 26, slot := 6, constantValue := 0 }, { name := "twoToTheDoubleScaleUp", type := .double, accessFlags := 8, slot := 7, constantValue := 0 }, { name := "twoToTheDoubleScaleDown", type := .double, accessFlags := 8, slot := 8, constantValue := 0 }, { name := "$assertionsDisabled", type := .boolean, accessFlags := 4120, slot := 9, constantValue := 0 }]
  methods := #[k11m0, k11m1, k11m2, k11m3]
  instanceTypes := #[]
  staticTypes := #[.double, .double, .double, .double, .double, .long, .long, .double, .double, .boolean]
  resolved := Array.replicate 460 none
  statics := none }

def pool12 : Array CpInfo := pool [(2, .class_ 4), (1, u "java/lang/Object"), (0, u "<init>"), (0, u "()V"), (17, .class_ 26), (1, u "jdk/internal/util/Preconditions"), (6, u "checkIndex"), (21, .class_ 56), (0, u "jdk/internal/util/Preconditions$4"), (57, .class_ 115), (0, u "jdk/internal/util/Preconditions$1"), (7, u "SIOOBE_FORMATTER"), (0, u "Ljava/util/function/BiFunction;"), (0, .class_ 126), (0, u "jdk/internal/util/Preconditions$2"), (3, u "AIOOBE_FORMATTER"), (0, .class_ 132), (0, u "jdk/internal/util/Preconditions$3"), (3, u "IOOBE_FORMATTER"), (41, u "(IILjava/util/function/BiFunction;)I")] 15

def k12m0 : Method := { name := "<init>", desc := "()V", sig := { parameters := [], returnType := none }, accessFlags := 1, code := none }
def k12c1 : Code := { maxStack := 3, maxLocals := 3, code := jdk_41_method_11_code, exceptionTable := #[], attributes := #[] }
def k12m1 : Method := { name := "checkIndex", desc := "(IILjava/util/function/BiFunction;)I", sig := { parameters := [.int, .int, (.object "java/util/function/BiFunction")], returnType := some .int }, accessFlags := 9, code := some k12c1 }
/-- jdk/internal/util/Preconditions -/
def k12 : Class := { plain "jdk/internal/util/Preconditions" (some 0) with
  accessFlags := 33
  interfaces := #[]
  cf := some (fileOf pool12 24 #[.nestMembers #[55, 131, 125, 114]] #[{ accessFlags := 1, nameIndex := 5, descriptorIndex := 6, attributes := #[] }, { accessFlags := 9, nameIndex := 33, descriptorIndex := 178, attributes := #[] }] 33 2 #[] #[{ accessFlags := 25, nameIndex := 123, descriptorIndex := 124, attributes := #[] }, { accessFlags := 25, nameIndex := 130, descriptorIndex := 124, attributes := #[] }, { accessFlags := 25, nameIndex := 136, descriptorIndex := 124, attributes := #[] }])
  fields := #[{ name := "SIOOBE_FORMATTER", type := (.object "java/util/function/BiFunction"), accessFlags := 25, slot := 0, constantValue := 0 }, { name := "AIOOBE_FORMATTER", type := (.object "java/util/function/BiFunction"), accessFlags := 25, slot := 1, constantValue := 0 }, { name := "IOOBE_FORMATTER", type := (.object "java/util/function/BiFunction"), accessFlags := 25, slot := 2, constantValue := 0 }]
  methods := #[k12m0, k12m1]
  instanceTypes := #[]
  staticTypes := #[(.object "java/util/function/BiFunction"), (.object "java/util/function/BiFunction"), (.object "java/util/function/BiFunction")]
  resolved := Array.replicate 194 none
  statics := some 1 }

def pool13 : Array CpInfo := pool [(9, u "<init>"), (6, .class_ 18), (1, u "java/lang/Object"), (0, u "()V"), (1, .class_ 23), (1, u "jdk/internal/util/ArraysSupport"), (0, u "LOG2_ARRAY_LONG_INDEX_SCALE"), (0, u "I"), (2, u "U"), (0, u "Ljdk/internal/misc/Unsafe;"), (8, u "BIG_ENDIAN"), (0, u "Z"), (8, u "LOG2_BYTE_BIT_SIZE"), (4, u "LOG2_ARRAY_INT_INDEX_SCALE"), (54, u "JLA"), (0, u "Ljdk/internal/access/JavaLangAccess;"), (11, u "LOG2_ARRAY_BOOLEAN_INDEX_SCALE"), (9, u "LOG2_ARRAY_BYTE_INDEX_SCALE"), (5, u "LOG2_ARRAY_CHAR_INDEX_SCALE"), (5, u "LOG2_ARRAY_SHORT_INDEX_SCALE"), (18, u "LOG2_ARRAY_FLOAT_INDEX_SCALE"), (24, u "LOG2_ARRAY_DOUBLE_INDEX_SCALE"), (89, u "T_BOOLEAN"), (2, u "T_CHAR"), (1, u "T_FLOAT"), (1, u "T_DOUBLE"), (1, u "T_BYTE"), (1, u "T_SHORT"), (1, u "T_INT"), (1, u "T_LONG"), (1, u "SOFT_MAX_ARRAY_LENGTH")] 83

def k13m0 : Method := { name := "<init>", desc := "()V", sig := { parameters := [], returnType := none }, accessFlags := 2, code := none }
/-- jdk/internal/util/ArraysSupport -/
def k13 : Class := { plain "jdk/internal/util/ArraysSupport" (some 0) with
  accessFlags := 33
  interfaces := #[]
  cf := some (fileOf pool13 21 #[] #[{ accessFlags := 2, nameIndex := 9, descriptorIndex := 19, attributes := #[] }] 33 16 #[] #[{ accessFlags := 24, nameIndex := 28, descriptorIndex := 29, attributes := #[] }, { accessFlags := 26, nameIndex := 38, descriptorIndex := 39, attributes := #[] }, { accessFlags := 25, nameIndex := 121, descriptorIndex := 25, attributes := #[] }, { accessFlags := 25, nameIndex := 131, descriptorIndex := 25, attributes := #[] }, { accessFlags := 25, nameIndex := 137, descriptorIndex := 25, attributes := #[] }, { accessFlags := 25, nameIndex := 143, descriptorIndex := 25, attributes := #[] }, { accessFlags := 25, nameIndex := 53, descriptorIndex := 25, attributes := #[] }, { accessFlags := 25, nameIndex := 24, descriptorIndex := 25, attributes := #[] }, { accessFlags := 25, nameIndex := 162, descriptorIndex := 25, attributes := #[] }, { accessFlags := 25, nameIndex := 187, descriptorIndex := 25, attributes := #[] }, { accessFlags := 26, nameIndex := 48, descriptorIndex := 25, attributes := #[] }, { accessFlags := 25, nameIndex := 277, descriptorIndex := 25, attributes := #[] }, { accessFlags := 25, nameIndex := 280, descriptorIndex := 25, attributes := #[] }, { accessFlags := 25, nameIndex := 282, descriptorIndex := 25, attributes := #[] }, { accessFlags := 25, nameIndex := 284, descriptorIndex := 25, attributes := #[] }, { accessFlags := 25, nameIndex := 286, descriptorIndex := 25, attributes := #[] }, { accessFlags := 25, nameIndex := 288, descriptorIndex := 25, attributes := #[] }, { accessFlags := 25, nameIndex := 290, descriptorIndex := 25, attributes := #[] }, { accessFlags := 25, nameIndex := 292, descriptorIndex := 25, attributes := #[] }, { accessFlags := 26, nameIndex := 108, descriptorIndex := 109, attributes := #[] }, { accessFlags := 25, nameIndex := 294, descriptorIndex := 25, attributes := #[] }])
  fields := #[{ name := "U", type := (.object "jdk/internal/misc/Unsafe"), accessFlags := 24, slot := 0, constantValue := 0 }, { name := "BIG_ENDIAN", type := .boolean, accessFlags := 26, slot := 1, constantValue := 0 }, { name := "LOG2_ARRAY_BOOLEAN_INDEX_SCALE", type := .int, accessFlags := 25, slot := 2, constantValue := 0 }, { name := "LOG2_ARRAY_BYTE_INDEX_SCALE", type := .int, accessFlags := 25, slot := 3, constantValue := 0 }, { name := "LOG2_ARRAY_CHAR_INDEX_SCALE", type := .int, accessFlags := 25, slot := 4, constantValue := 0 }, { name := "LOG2_ARRAY_SHORT_INDEX_SCALE", type := .int, accessFlags := 25, slot := 5, constantValue := 0 }, { name := "LOG2_ARRAY_INT_INDEX_SCALE", type := .int, accessFlags := 25, slot := 6, constantValue := 0 }, { name := "LOG2_ARRAY_LONG_INDEX_SCALE", type := .int, accessFlags := 25, slot := 7, constantValue := 0 }, { name := "LOG2_ARRAY_FLOAT_INDEX_SCALE", type := .int, accessFlags := 25, slot := 8, constantValue := 0 }, { name := "LOG2_ARRAY_DOUBLE_INDEX_SCALE", type := .int, accessFlags := 25, slot := 9, constantValue := 0 }, { name := "LOG2_BYTE_BIT_SIZE", type := .int, accessFlags := 26, slot := 10, constantValue := 0 }, { name := "T_BOOLEAN", type := .int, accessFlags := 25, slot := 11, constantValue := 0 }, { name := "T_CHAR", type := .int, accessFlags := 25, slot := 12, constantValue := 0 }, { name := "T_FLOAT", type := .int, accessFlags := 25, slot := 13, constantValue := 0 }, { name := "T_DOUBLE", type := .int, accessFlags := 25, slot := 14, constantValue := 0 }, { name := "T_BYTE", type := .int, accessFlags := 25, slot := 15, constantValue := 0 }, { name := "T_SHORT", type := .int, accessFlags := 25, slot := 16, constantValue := 0 }, { name := "T_INT", type := .int, accessFlags := 25, slot := 17, constantValue := 0 }, { name := "T_LONG", type := .int, accessFlags := 25, slot := 18, constantValue := 0 }, { name := "JLA", type := (.object "jdk/internal/access/JavaLangAccess"), accessFlags := 26, slot := 19, constantValue := 0 }, { name := "SOFT_MAX_ARRAY_LENGTH", type := .int, accessFlags := 25, slot := 20, constantValue := 0 }]
  methods := #[k13m0]
  instanceTypes := #[]
  staticTypes := #[(.object "jdk/internal/misc/Unsafe"), .boolean, .int, .int, .int, .int, .int, .int, .int, .int, .int, .int, .int, .int, .int, .int, .int, .int, .int, (.object "jdk/internal/access/JavaLangAccess"), .int]
  resolved := Array.replicate 378 none
  statics := none }

def pool14 : Array CpInfo := pool [(1, u "java/lang/Cloneable"), (0, .class_ 1), (0, u "java/lang/Object"), (0, .class_ 3)] 3

/-- java/lang/Cloneable -/
def k14 : Class := { plain "java/lang/Cloneable" (some 0) with
  accessFlags := 1537
  interfaces := #[]
  cf := some (fileOf pool14 2 #[] #[] 1537 4 #[] #[])
  fields := #[]
  methods := #[]
  instanceTypes := #[]
  staticTypes := #[]
  resolved := Array.replicate 8 none
  statics := none }

/-- the primitive byte -/
def k15 : Class := { plain "byte" none with kind := .primitive 'B', accessFlags := 0x411 }
/-- [B -/
def k16 : Class := { plain "[B" (some 0) with kind := .array 15 .byte, interfaces := #[14, 2], accessFlags := 1041 }

/-- the primitive char -/
def k17 : Class := { plain "char" none with kind := .primitive 'C', accessFlags := 0x411 }
/-- [C -/
def k18 : Class := { plain "[C" (some 0) with kind := .array 17 .char, interfaces := #[14, 2], accessFlags := 1041 }

/-- the primitive int -/
def k19 : Class := { plain "int" none with kind := .primitive 'I', accessFlags := 0x411 }
/-- [I -/
def k20 : Class := { plain "[I" (some 0) with kind := .array 19 .int, interfaces := #[14, 2], accessFlags := 1041 }

def heap : Heap := #[{ cls := 7, slots := #[.long 0, .int 1, .null, .int 0, .null, .int 0, .int 0], vm := .statics 7 },
  { cls := 12, slots := #[.null, .null, .null], vm := .statics 12 }]
def classes : Array Class := #[k0, k1, k2, k3, k4, k5, k6, k7, k8, k9, k10, k11, k12, k13, k14, k15, k16, k17, k18, k19, k20]
def interned : List (Array UInt16 × Addr) := []
def slotsUsed : Nat := 10
def theMethod : MethodId := ⟨1, 1⟩
def args0 : Array Value := #[.long 5, .int 5, .int 5]
def aboutOver (below : List Frame) : State where
  vm := { classes := classes, interned := interned.toArray }
  heap := heap
  slotsUsed := slotsUsed
  threads := #[{ frames := .invoking theMethod args0 :: below }]
def below0 : List Frame := [.native { method := ⟨0, 0⟩, args := #[] }]
def about1 : State := aboutOver below0
def p0 : Program := .bare "" "" ""
def e0 : Env := launch0.env 0 0 0
theorem w_frames : about1.frames = Frame.invoking theMethod args0 :: below0 := rfl
set_option maxRecDepth 65536 in
theorem w_args : argsFit about1.vm theMethod args0 = true := by decide +kernel
set_option maxRecDepth 65536 in
theorem w_heap : heapFits about1 = true := by decide +kernel
set_option maxRecDepth 65536 in
theorem w_runnable : about1.curStatus? = some .runnable := by decide +kernel
set_option maxRecDepth 65536 in
theorem w_alone : about1.alone = true := by decide +kernel
set_option maxRecDepth 65536 in
theorem w_named : about1.methodNamed? x = some theMethod := by decide +kernel
set_option maxRecDepth 65536 in
theorem w_hears : about1.hears theMethod below0 = true := by decide +kernel
set_option maxRecDepth 65536 in
theorem w_ripe : about1.ripe theMethod args0 below0 = true := by decide +kernel
theorem w_running : about1.status = .running := rfl
set_option maxRecDepth 65536 in
theorem w_room : about1.hasRoom e0.platform room_1 = true :=
  launch0.hasRoom_least _ room_1 (by decide +kernel) (by decide +kernel) (by decide +kernel) (by decide +kernel) (by decide +kernel) (by decide +kernel)
theorem allAtoms_all (ts : List Jvm.Cond) (a : Array Jvm.Value) (st : Jvm.State) : (allAtoms ts).before a st = ts.all (fun c => c.before a st) := by
  induction ts with
  | nil => rfl
  | cons c t ih =>
    show (Jvm.Cond.and c (allAtoms t)).before a st = _
    rw [Jvm.Cond.before_and, ih, List.all_cons]
def words1 : List Jvm.Cond := Jvm.Cond.code x code maxLocals ret :: tables_1
/-- a 'code' word, met by the world's own term for the bytes: nothing is compared byte by byte -/
theorem code_word {y : MethodName} {bytes : ByteArray} {mx : Nat} {rt : Option FieldType} {a : Array Value} {s : State} {m : MethodId} {meth : Method} {c : Code} (h1 : s.methodNamed? y = some m) (h2 : s.vm.method? m = some meth) (h3 : meth.code = some c) (h4 : c.code = bytes)
    (h5 : (c.maxLocals == mx && c.exceptionTable.isEmpty && decide (c.maxStack ≤ mostOperands) && decide (meth.sig.returnType = rt) && !meth.locks && decide (parseMethodDescriptor y.desc = some meth.sig)) = true) : (Jvm.Cond.code y bytes mx rt).before a s = true := by
  simp only [Bool.and_eq_true, beq_iff_eq, Bool.not_eq_true', decide_eq_true_eq] at h5
  obtain ⟨⟨⟨⟨⟨g1, g2⟩, g3⟩, g4⟩, g5⟩, g6⟩ := h5
  simp [Cond.before, Cond.holds, Cond.value, h1, h2, h3, h4, g1, g2, g3, g4, g5, g6]
def isCode : Jvm.Cond → Bool
  | .code _ _ _ _ => true
  | _ => false
theorem all_split {L : List Jvm.Cond} {P : Jvm.Cond → Bool} (h1 : L.all (fun c => isCode c || P c) = true) (h2 : ∀ c ∈ L.filter isCode, P c = true) : L.all P = true := by
  refine List.all_eq_true.mpr fun c hc => ?_
  have h := List.all_eq_true.mp h1 c hc
  rcases Bool.eq_false_or_eq_true (isCode c) with hi | hi
  · exact h2 c (List.mem_filter.mpr ⟨hc, hi⟩)
  · simpa [hi] using h
set_option maxRecDepth 65536 in
theorem w_c0 : (Jvm.Cond.code x code maxLocals ret).before args0 about1 = true := code_word (m := ⟨1, 1⟩) (meth := k1m1) (c := k1c1) (by decide +kernel) rfl rfl rfl (by decide +kernel)
set_option maxRecDepth 65536 in
theorem w_c1 : (Jvm.Cond.code ({ cls := "com/example/vestwright/vestwright/InputNumbersIsInRangePinLaw", name := "nonZero", desc := "(I)C" } : Jvm.MethodName) method_3_code (1 : Nat) (Option.some Jvm.ClassFile.FieldType.char)).before args0 about1 = true := code_word (m := ⟨1, 2⟩) (meth := k1m2) (c := k1c2) (by decide +kernel) rfl rfl rfl (by decide +kernel)
set_option maxRecDepth 65536 in
theorem w_c2 : (Jvm.Cond.code ({ cls := "com/example/vestwright/vestwright/InputNumbersIsInRangePinLaw", name := "dig", desc := "(I)C" } : Jvm.MethodName) method_4_code (1 : Nat) (Option.some Jvm.ClassFile.FieldType.char)).before args0 about1 = true := code_word (m := ⟨1, 3⟩) (meth := k1m3) (c := k1c3) (by decide +kernel) rfl rfl rfl (by decide +kernel)
set_option maxRecDepth 65536 in
theorem w_c3 : (Jvm.Cond.code ({ cls := "com/example/vestwright/vestwright/InputNumbersIsInRangePinLaw", name := "dec", desc := "(JJ)C" } : Jvm.MethodName) method_5_code (4 : Nat) (Option.some Jvm.ClassFile.FieldType.char)).before args0 about1 = true := code_word (m := ⟨1, 4⟩) (meth := k1m4) (c := k1c4) (by decide +kernel) rfl rfl rfl (by decide +kernel)
set_option maxRecDepth 65536 in
theorem w_c4 : (Jvm.Cond.code ({ cls := "java/lang/String", name := "<init>", desc := "([C)V" } : Jvm.MethodName) jdk_42_method_3_code (2 : Nat) (Option.none : Option Jvm.ClassFile.FieldType)).before args0 about1 = true := code_word (m := ⟨7, 1⟩) (meth := k7m1) (c := k7c1) (by decide +kernel) rfl rfl rfl (by decide +kernel)
set_option maxRecDepth 65536 in
theorem w_c5 : (Jvm.Cond.code ({ cls := "java/lang/String", name := "<init>", desc := "([CIILjava/lang/Void;)V" } : Jvm.MethodName) jdk_42_method_149_code (6 : Nat) (Option.none : Option Jvm.ClassFile.FieldType)).before args0 about1 = true := code_word (m := ⟨7, 6⟩) (meth := k7m6) (c := k7c6) (by decide +kernel) rfl rfl rfl (by decide +kernel)
set_option maxRecDepth 65536 in
theorem w_c6 : (Jvm.Cond.code ({ cls := "java/lang/Object", name := "<init>", desc := "()V" } : Jvm.MethodName) object_method_1_code (1 : Nat) (Option.none : Option Jvm.ClassFile.FieldType)).before args0 about1 = true := code_word (m := ⟨0, 0⟩) (meth := k0m0) (c := k0c0) (by decide +kernel) rfl rfl rfl (by decide +kernel)
set_option maxRecDepth 65536 in
theorem w_c7 : (Jvm.Cond.code ({ cls := "java/lang/StringUTF16", name := "compress", desc := "([CII)[B" } : Jvm.MethodName) jdk_52_method_16_code (6 : Nat) (Option.some (Jvm.ClassFile.FieldType.array Jvm.ClassFile.FieldType.byte))).before args0 about1 = true := code_word (m := ⟨8, 2⟩) (meth := k8m2) (c := k8c2) (by decide +kernel) rfl rfl rfl (by decide +kernel)
set_option maxRecDepth 65536 in
theorem w_c8 : (Jvm.Cond.code ({ cls := "java/lang/StringUTF16", name := "compress", desc := "([CI[BII)I" } : Jvm.MethodName) jdk_52_method_21_code (7 : Nat) (Option.some Jvm.ClassFile.FieldType.int)).before args0 about1 = true := code_word (m := ⟨8, 3⟩) (meth := k8m3) (c := k8c3) (by decide +kernel) rfl rfl rfl (by decide +kernel)
set_option maxRecDepth 65536 in
theorem w_c9 : (Jvm.Cond.code ({ cls := "java/lang/StringUTF16", name := "coderFromArrayLen", desc := "([BI)B" } : Jvm.MethodName) jdk_52_method_15_code (2 : Nat) (Option.some Jvm.ClassFile.FieldType.byte)).before args0 about1 = true := code_word (m := ⟨8, 1⟩) (meth := k8m1) (c := k8c1) (by decide +kernel) rfl rfl rfl (by decide +kernel)
set_option maxRecDepth 65536 in
theorem w_c10 : (Jvm.Cond.code ({ cls := "com/example/vestwright/vestwright/InputNumbers", name := "isInRange", desc := "(Ljava/lang/String;)Z" } : Jvm.MethodName) prog_5_method_4_code (6 : Nat) (Option.some Jvm.ClassFile.FieldType.boolean)).before args0 about1 = true := code_word (m := ⟨9, 1⟩) (meth := k9m1) (c := k9c1) (by decide +kernel) rfl rfl rfl (by decide +kernel)
set_option maxRecDepth 65536 in
theorem w_c11 : (Jvm.Cond.code ({ cls := "com/example/vestwright/vestwright/InputNumbers", name := "exponentMark", desc := "(Ljava/lang/String;)I" } : Jvm.MethodName) prog_5_method_9_code (4 : Nat) (Option.some Jvm.ClassFile.FieldType.int)).before args0 about1 = true := code_word (m := ⟨9, 4⟩) (meth := k9m4) (c := k9c4) (by decide +kernel) rfl rfl rfl (by decide +kernel)
set_option maxRecDepth 65536 in
theorem w_c12 : (Jvm.Cond.code ({ cls := "java/lang/String", name := "indexOf", desc := "(I)I" } : Jvm.MethodName) jdk_42_method_79_code (2 : Nat) (Option.some Jvm.ClassFile.FieldType.int)).before args0 about1 = true := code_word (m := ⟨7, 4⟩) (meth := k7m4) (c := k7c4) (by decide +kernel) rfl rfl rfl (by decide +kernel)
set_option maxRecDepth 65536 in
theorem w_c13 : (Jvm.Cond.code ({ cls := "java/lang/String", name := "indexOf", desc := "(II)I" } : Jvm.MethodName) jdk_42_method_80_code (3 : Nat) (Option.some Jvm.ClassFile.FieldType.int)).before args0 about1 = true := code_word (m := ⟨7, 5⟩) (meth := k7m5) (c := k7c5) (by decide +kernel) rfl rfl rfl (by decide +kernel)
set_option maxRecDepth 65536 in
theorem w_c14 : (Jvm.Cond.code ({ cls := "java/lang/String", name := "isLatin1", desc := "()Z" } : Jvm.MethodName) jdk_42_method_154_code (1 : Nat) (Option.some Jvm.ClassFile.FieldType.boolean)).before args0 about1 = true := code_word (m := ⟨7, 8⟩) (meth := k7m8) (c := k7c8) (by decide +kernel) rfl rfl rfl (by decide +kernel)
set_option maxRecDepth 65536 in
theorem w_c15 : (Jvm.Cond.code ({ cls := "java/lang/String", name := "length", desc := "()I" } : Jvm.MethodName) jdk_42_method_54_code (1 : Nat) (Option.some Jvm.ClassFile.FieldType.int)).before args0 about1 = true := code_word (m := ⟨7, 2⟩) (meth := k7m2) (c := k7c2) (by decide +kernel) rfl rfl rfl (by decide +kernel)
set_option maxRecDepth 65536 in
theorem w_c16 : (Jvm.Cond.code ({ cls := "java/lang/String", name := "coder", desc := "()B" } : Jvm.MethodName) jdk_42_method_152_code (1 : Nat) (Option.some Jvm.ClassFile.FieldType.byte)).before args0 about1 = true := code_word (m := ⟨7, 7⟩) (meth := k7m7) (c := k7c7) (by decide +kernel) rfl rfl rfl (by decide +kernel)
set_option maxRecDepth 65536 in
theorem w_c17 : (Jvm.Cond.code ({ cls := "java/lang/StringLatin1", name := "indexOf", desc := "([BIII)I" } : Jvm.MethodName) jdk_43_method_22_code (4 : Nat) (Option.some Jvm.ClassFile.FieldType.int)).before args0 about1 = true := code_word (m := ⟨10, 3⟩) (meth := k10m3) (c := k10c3) (by decide +kernel) rfl rfl rfl (by decide +kernel)
set_option maxRecDepth 65536 in
theorem w_c18 : (Jvm.Cond.code ({ cls := "java/lang/StringLatin1", name := "canEncode", desc := "(I)Z" } : Jvm.MethodName) jdk_43_method_4_code (1 : Nat) (Option.some Jvm.ClassFile.FieldType.boolean)).before args0 about1 = true := code_word (m := ⟨10, 2⟩) (meth := k10m2) (c := k10c2) (by decide +kernel) rfl rfl rfl (by decide +kernel)
set_option maxRecDepth 65536 in
theorem w_c19 : (Jvm.Cond.code ({ cls := "java/lang/Math", name := "max", desc := "(II)I" } : Jvm.MethodName) jdk_29_method_65_code (2 : Nat) (Option.some Jvm.ClassFile.FieldType.int)).before args0 about1 = true := code_word (m := ⟨11, 1⟩) (meth := k11m1) (c := k11c1) (by decide +kernel) rfl rfl rfl (by decide +kernel)
set_option maxRecDepth 65536 in
theorem w_c20 : (Jvm.Cond.code ({ cls := "java/lang/Math", name := "min", desc := "(II)I" } : Jvm.MethodName) jdk_29_method_69_code (2 : Nat) (Option.some Jvm.ClassFile.FieldType.int)).before args0 about1 = true := code_word (m := ⟨11, 2⟩) (meth := k11m2) (c := k11c2) (by decide +kernel) rfl rfl rfl (by decide +kernel)
set_option maxRecDepth 65536 in
theorem w_c21 : (Jvm.Cond.code ({ cls := "java/lang/StringLatin1", name := "indexOfChar", desc := "([BIII)I" } : Jvm.MethodName) jdk_43_method_23_code (6 : Nat) (Option.some Jvm.ClassFile.FieldType.int)).before args0 about1 = true := code_word (m := ⟨10, 4⟩) (meth := k10m4) (c := k10c4) (by decide +kernel) rfl rfl rfl (by decide +kernel)
set_option maxRecDepth 65536 in
theorem w_c22 : (Jvm.Cond.code ({ cls := "com/example/vestwright/vestwright/InputNumbers", name := "exponent", desc := "(Ljava/lang/String;I)J" } : Jvm.MethodName) prog_5_method_8_code (6 : Nat) (Option.some Jvm.ClassFile.FieldType.long)).before args0 about1 = true := code_word (m := ⟨9, 3⟩) (meth := k9m3) (c := k9c3) (by decide +kernel) rfl rfl rfl (by decide +kernel)
set_option maxRecDepth 65536 in
theorem w_c23 : (Jvm.Cond.code ({ cls := "com/example/vestwright/vestwright/InputNumbers", name := "decimals", desc := "(Ljava/lang/String;I)J" } : Jvm.MethodName) prog_5_method_7_code (3 : Nat) (Option.some Jvm.ClassFile.FieldType.long)).before args0 about1 = true := code_word (m := ⟨9, 2⟩) (meth := k9m2) (c := k9c2) (by decide +kernel) rfl rfl rfl (by decide +kernel)
set_option maxRecDepth 65536 in
theorem w_c24 : (Jvm.Cond.code ({ cls := "java/lang/String", name := "charAt", desc := "(I)C" } : Jvm.MethodName) jdk_42_method_56_code (2 : Nat) (Option.some Jvm.ClassFile.FieldType.char)).before args0 about1 = true := code_word (m := ⟨7, 3⟩) (meth := k7m3) (c := k7c3) (by decide +kernel) rfl rfl rfl (by decide +kernel)
set_option maxRecDepth 65536 in
theorem w_c25 : (Jvm.Cond.code ({ cls := "java/lang/StringLatin1", name := "charAt", desc := "([BI)C" } : Jvm.MethodName) jdk_43_method_2_code (2 : Nat) (Option.some Jvm.ClassFile.FieldType.char)).before args0 about1 = true := code_word (m := ⟨10, 1⟩) (meth := k10m1) (c := k10c1) (by decide +kernel) rfl rfl rfl (by decide +kernel)
set_option maxRecDepth 65536 in
theorem w_c26 : (Jvm.Cond.code ({ cls := "java/lang/String", name := "checkIndex", desc := "(II)V" } : Jvm.MethodName) jdk_42_method_155_code (2 : Nat) (Option.none : Option Jvm.ClassFile.FieldType)).before args0 about1 = true := code_word (m := ⟨7, 9⟩) (meth := k7m9) (c := k7c9) (by decide +kernel) rfl rfl rfl (by decide +kernel)
set_option maxRecDepth 65536 in
theorem w_c27 : (Jvm.Cond.code ({ cls := "jdk/internal/util/Preconditions", name := "checkIndex", desc := "(IILjava/util/function/BiFunction;)I" } : Jvm.MethodName) jdk_41_method_11_code (3 : Nat) (Option.some Jvm.ClassFile.FieldType.int)).before args0 about1 = true := code_word (m := ⟨12, 1⟩) (meth := k12m1) (c := k12c1) (by decide +kernel) rfl rfl rfl (by decide +kernel)
set_option maxRecDepth 65536 in
theorem w_c28 : (Jvm.Cond.code ({ cls := "java/lang/Math", name := "min", desc := "(JJ)J" } : Jvm.MethodName) jdk_29_method_70_code (4 : Nat) (Option.some Jvm.ClassFile.FieldType.long)).before args0 about1 = true := code_word (m := ⟨11, 3⟩) (meth := k11m3) (c := k11c3) (by decide +kernel) rfl rfl rfl (by decide +kernel)
def codes1 : List Jvm.Cond := [Jvm.Cond.code x code maxLocals ret, Jvm.Cond.code ({ cls := "com/example/vestwright/vestwright/InputNumbersIsInRangePinLaw", name := "nonZero", desc := "(I)C" } : Jvm.MethodName) method_3_code (1 : Nat) (Option.some Jvm.ClassFile.FieldType.char), Jvm.Cond.code ({ cls := "com/example/vestwright/vestwright/InputNumbersIsInRangePinLaw", name := "dig", desc := "(I)C" } : Jvm.MethodName) method_4_code (1 : Nat) (Option.some Jvm.ClassFile.FieldType.char), Jvm.Cond.code ({ cls := "com/example/vestwright/vestwright/InputNumbersIsInRangePinLaw", name := "dec", desc := "(JJ)C" } : Jvm.MethodName) method_5_code (4 : Nat) (Option.some Jvm.ClassFile.FieldType.char), Jvm.Cond.code ({ cls := "java/lang/String", name := "<init>", desc := "([C)V" } : Jvm.MethodName) jdk_42_method_3_code (2 : Nat) (Option.none : Option Jvm.ClassFile.FieldType), Jvm.Cond.code ({ cls := "java/lang/String", name := "<init>", desc := "([CIILjava/lang/Void;)V" } : Jvm.MethodName) jdk_42_method_149_code (6 : Nat) (Option.none : Option Jvm.ClassFile.FieldType), Jvm.Cond.code ({ cls := "java/lang/Object", name := "<init>", desc := "()V" } : Jvm.MethodName) object_method_1_code (1 : Nat) (Option.none : Option Jvm.ClassFile.FieldType), Jvm.Cond.code ({ cls := "java/lang/StringUTF16", name := "compress", desc := "([CII)[B" } : Jvm.MethodName) jdk_52_method_16_code (6 : Nat) (Option.some (Jvm.ClassFile.FieldType.array Jvm.ClassFile.FieldType.byte)), Jvm.Cond.code ({ cls := "java/lang/StringUTF16", name := "compress", desc := "([CI[BII)I" } : Jvm.MethodName) jdk_52_method_21_code (7 : Nat) (Option.some Jvm.ClassFile.FieldType.int), Jvm.Cond.code ({ cls := "java/lang/StringUTF16", name := "coderFromArrayLen", desc := "([BI)B" } : Jvm.MethodName) jdk_52_method_15_code (2 : Nat) (Option.some Jvm.ClassFile.FieldType.byte), Jvm.Cond.code ({ cls := "com/example/vestwright/vestwright/InputNumbers", name := "isInRange", desc := "(Ljava/lang/String;)Z" } : Jvm.MethodName) prog_5_method_4_code (6 : Nat) (Option.some Jvm.ClassFile.FieldType.boolean), Jvm.Cond.code ({ cls := "com/example/vestwright/vestwright/InputNumbers", name := "exponentMark", desc := "(Ljava/lang/String;)I" } : Jvm.MethodName) prog_5_method_9_code (4 : Nat) (Option.some Jvm.ClassFile.FieldType.int), Jvm.Cond.code ({ cls := "java/lang/String", name := "indexOf", desc := "(I)I" } : Jvm.MethodName) jdk_42_method_79_code (2 : Nat) (Option.some Jvm.ClassFile.FieldType.int), Jvm.Cond.code ({ cls := "java/lang/String", name := "indexOf", desc := "(II)I" } : Jvm.MethodName) jdk_42_method_80_code (3 : Nat) (Option.some Jvm.ClassFile.FieldType.int), Jvm.Cond.code ({ cls := "java/lang/String", name := "isLatin1", desc := "()Z" } : Jvm.MethodName) jdk_42_method_154_code (1 : Nat) (Option.some Jvm.ClassFile.FieldType.boolean), Jvm.Cond.code ({ cls := "java/lang/String", name := "length", desc := "()I" } : Jvm.MethodName) jdk_42_method_54_code (1 : Nat) (Option.some Jvm.ClassFile.FieldType.int), Jvm.Cond.code ({ cls := "java/lang/String", name := "coder", desc := "()B" } : Jvm.MethodName) jdk_42_method_152_code (1 : Nat) (Option.some Jvm.ClassFile.FieldType.byte), Jvm.Cond.code ({ cls := "java/lang/StringLatin1", name := "indexOf", desc := "([BIII)I" } : Jvm.MethodName) jdk_43_method_22_code (4 : Nat) (Option.some Jvm.ClassFile.FieldType.int), Jvm.Cond.code ({ cls := "java/lang/StringLatin1", name := "canEncode", desc := "(I)Z" } : Jvm.MethodName) jdk_43_method_4_code (1 : Nat) (Option.some Jvm.ClassFile.FieldType.boolean), Jvm.Cond.code ({ cls := "java/lang/Math", name := "max", desc := "(II)I" } : Jvm.MethodName) jdk_29_method_65_code (2 : Nat) (Option.some Jvm.ClassFile.FieldType.int), Jvm.Cond.code ({ cls := "java/lang/Math", name := "min", desc := "(II)I" } : Jvm.MethodName) jdk_29_method_69_code (2 : Nat) (Option.some Jvm.ClassFile.FieldType.int), Jvm.Cond.code ({ cls := "java/lang/StringLatin1", name := "indexOfChar", desc := "([BIII)I" } : Jvm.MethodName) jdk_43_method_23_code (6 : Nat) (Option.some Jvm.ClassFile.FieldType.int), Jvm.Cond.code ({ cls := "com/example/vestwright/vestwright/InputNumbers", name := "exponent", desc := "(Ljava/lang/String;I)J" } : Jvm.MethodName) prog_5_method_8_code (6 : Nat) (Option.some Jvm.ClassFile.FieldType.long), Jvm.Cond.code ({ cls := "com/example/vestwright/vestwright/InputNumbers", name := "decimals", desc := "(Ljava/lang/String;I)J" } : Jvm.MethodName) prog_5_method_7_code (3 : Nat) (Option.some Jvm.ClassFile.FieldType.long), Jvm.Cond.code ({ cls := "java/lang/String", name := "charAt", desc := "(I)C" } : Jvm.MethodName) jdk_42_method_56_code (2 : Nat) (Option.some Jvm.ClassFile.FieldType.char), Jvm.Cond.code ({ cls := "java/lang/StringLatin1", name := "charAt", desc := "([BI)C" } : Jvm.MethodName) jdk_43_method_2_code (2 : Nat) (Option.some Jvm.ClassFile.FieldType.char), Jvm.Cond.code ({ cls := "java/lang/String", name := "checkIndex", desc := "(II)V" } : Jvm.MethodName) jdk_42_method_155_code (2 : Nat) (Option.none : Option Jvm.ClassFile.FieldType), Jvm.Cond.code ({ cls := "jdk/internal/util/Preconditions", name := "checkIndex", desc := "(IILjava/util/function/BiFunction;)I" } : Jvm.MethodName) jdk_41_method_11_code (3 : Nat) (Option.some Jvm.ClassFile.FieldType.int), Jvm.Cond.code ({ cls := "java/lang/Math", name := "min", desc := "(JJ)J" } : Jvm.MethodName) jdk_29_method_70_code (4 : Nat) (Option.some Jvm.ClassFile.FieldType.long)]
set_option maxRecDepth 65536 in
theorem codes_eq : words1.filter isCode = codes1 := rfl
theorem w_codes : ∀ c ∈ words1.filter isCode, c.before args0 about1 = true := by
  rw [codes_eq]
  intro c hc
  simp only [codes1, List.mem_cons, List.not_mem_nil, or_false] at hc
  rcases hc with rfl | rfl | rfl | rfl | rfl | rfl | rfl | rfl | rfl | rfl | rfl | rfl | rfl | rfl | rfl | rfl | rfl | rfl | rfl | rfl | rfl | rfl | rfl | rfl | rfl | rfl | rfl | rfl | rfl
  · exact w_c0
  · exact w_c1
  · exact w_c2
  · exact w_c3
  · exact w_c4
  · exact w_c5
  · exact w_c6
  · exact w_c7
  · exact w_c8
  · exact w_c9
  · exact w_c10
  · exact w_c11
  · exact w_c12
  · exact w_c13
  · exact w_c14
  · exact w_c15
  · exact w_c16
  · exact w_c17
  · exact w_c18
  · exact w_c19
  · exact w_c20
  · exact w_c21
  · exact w_c22
  · exact w_c23
  · exact w_c24
  · exact w_c25
  · exact w_c26
  · exact w_c27
  · exact w_c28
set_option maxRecDepth 65536 in
theorem w_t1 : (words1.take 24).all (fun c => isCode c || c.before args0 about1) = true := by decide +kernel
set_option maxRecDepth 65536 in
theorem w_t2 : ((words1.drop 24).take 24).all (fun c => isCode c || c.before args0 about1) = true := by decide +kernel
set_option maxRecDepth 65536 in
theorem w_t3 : (((words1.drop 24).drop 24).take 24).all (fun c => isCode c || c.before args0 about1) = true := by decide +kernel
set_option maxRecDepth 65536 in
theorem w_t4 : ((((words1.drop 24).drop 24).drop 24).take 24).all (fun c => isCode c || c.before args0 about1) = true := by decide +kernel
set_option maxRecDepth 65536 in
theorem w_t5 : (((((words1.drop 24).drop 24).drop 24).drop 24).take 24).all (fun c => isCode c || c.before args0 about1) = true := by decide +kernel
set_option maxRecDepth 65536 in
theorem w_t6 : (((((words1.drop 24).drop 24).drop 24).drop 24).drop 24).all (fun c => isCode c || c.before args0 about1) = true := by decide +kernel
theorem w_tables : (allAtoms (Jvm.Cond.code x code maxLocals ret :: tables_1)).before args0 about1 = true := by
  rw [allAtoms_all]
  show words1.all (fun c => c.before args0 about1) = true
  refine all_split ?_ w_codes
  rw [← List.take_append_drop 24 words1, List.all_append, w_t1, ← List.take_append_drop 24 (words1.drop 24), List.all_append, w_t2, ← List.take_append_drop 24 ((words1.drop 24).drop 24), List.all_append, w_t3, ← List.take_append_drop 24 (((words1.drop 24).drop 24).drop 24), List.all_append, w_t4, ← List.take_append_drop 24 ((((words1.drop 24).drop 24).drop 24).drop 24), List.all_append, w_t5, w_t6]
  rfl
set_option maxRecDepth 65536 in
theorem w_rest : rest_1_c.before args0 about1 = true := by decide +kernel
set_option maxRecDepth 65536 in
theorem w_case : (Jvm.Cond.and given_1 narrow_1).before args0 about1 = true := by decide +kernel
theorem w_applies : (headSpec (Jvm.Cond.code x code maxLocals ret :: tables_1) room_1).applies x e0.platform about1 = true :=
  (Spec.applies_iff w_frames).mpr ⟨w_running, w_runnable, w_alone, w_named, w_hears, w_ripe, w_room, w_tables⟩
theorem atStart : AtStart classFile x code maxLocals ret World_1 tables_1 room_1 Calls_1 rest_1 Pre_1 launch0 p0 e0 about1 theMethod args0 below0 :=
  ⟨lists_1, trivial, launch0.admits_env _ _ _, launch0.least_env, fairChoices_fair.cas, fairChoices_fair.clock, w_frames, w_args, w_heap, w_applies, trivial, w_rest, w_case⟩
end start1
theorem witness_1 : WitnessClaimed_1 := ⟨start1.p0, start1.e0, start1.about1, start1.theMethod, start1.args0, start1.below0, start1.atStart⟩
end Jvm.Pilot.@@N@@
