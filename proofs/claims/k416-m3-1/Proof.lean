import JvmDerived
import JvmDerived.Pilot.@@N@@Statement
import JvmDerived.Pilot.@@N@@Code
set_option linter.unusedVariables false
set_option linter.unusedSimpArgs false
namespace Jvm.OwnWalk
open Sem ClassFile Op Lib Jvm.Stand Jvm.Free Jvm.LawKit Jvm.RoadKit
/-- from t the run comes to an end of which P holds -/
def Win (tb : Tables) (e : Env) (below : List Frame) (P : State → Outcome → Prop) (t : State) : Prop :=
  ∃ s₂ o, Steps tb e below t s₂ ∧ s₂.status = .running ∧ Ended s₂ below o ∧ P s₂ o
theorem Win.go {tb : Tables} {e : Env} {below : List Frame} {P : State → Outcome → Prop} {t t' : State} (st : ∀ z, Steps tb e below t' z → Steps tb e below t z) (w : Win tb e below P t') : Win tb e below P t := by
  obtain ⟨s2, o, h, r⟩ := w; exact ⟨s2, o, st _ h, r⟩
theorem Win.come {tb : Tables} {e : Env} {below : List Frame} {P : State → Outcome → Prop} {t t' : State} (st : Steps tb e below t t') (w : Win tb e below P t') : Win tb e below P t := by
  obtain ⟨s2, o, h, r⟩ := w; exact ⟨s2, o, st.trans h, r⟩
/-- the body has returned v with the heap h, L written -/
def PostQ (s : State) (Q : Option Value → Heap → List Loc → Prop) (C S : Nat) (u : State) (o : Outcome) : Prop := ∃ v L, o = .returned v ∧ Q v u.heap L ∧ FrameEnd s o u L C S
section Ret
variable {p : Program} {l : Launch} {e : Env} {R : Room} {s : State} {m : MethodId} {args : Array Value} {below : List Frame} {meth : Method} {c : Code} {T : State} {locs : List Loc} {cells slots : Nat} {h : Heap} {Q : Option Value → Heap → List Loc → Prop} {C S : Nat}
theorem retI' (X : Stand p l e R s m args below meth c T locs cells slots) (hx : p.tables.exec = Jvm.exec) {pc : Nat} {Ls : Array Slot} {z : Int32} {rest : List Value} (hret : meth.sig.returnType = some .int) (hd : decode c.code pc = .ok (.ireturn, 1)) {fs : List Frame}
    (hl : ∀ (f : JFrame) (acts : List Action), f.method = m → f.locked = none → f.entered = [] → (doReturn e (T.setTop f) acts (some (.int z))).1 = T.setFrames fs) : Steps p.tables e below (T.setTop (mkF m pc Ls (.int z :: rest))) (T.setFrames fs) := by
  have hm' : T.vm.method? m = some meth := X.method'
  have hn : narrow .int (.int z) = .int z := rfl
  show Steps p.tables e below (T.setTop { method := m, pc := pc, locals := Ls, stack := _ :: rest, locked := none }) _
  jvm_step X.here [X.here.top, hx, hd, hm', hret, hn]
  first | (intro acts; rw [hl _ acts rfl rfl rfl]) | rw [hl _ _ rfl rfl rfl]
  exact Steps.refl _
theorem retA' (X : Stand p l e R s m args below meth c T locs cells slots) (hx : p.tables.exec = Jvm.exec) {pc : Nat} {Ls : Array Slot} {w : Value} {t : FieldType} (hret : meth.sig.returnType = some t) (ht : t.isReference = true) (hv : w.isRef = true) (hd : decode c.code pc = .ok (.areturn, 1)) {fs : List Frame}
    (hl : ∀ (f : JFrame) (acts : List Action), f.method = m → f.locked = none → f.entered = [] → (doReturn e (T.setTop f) acts (some w)).1 = T.setFrames fs) : Steps p.tables e below (T.setTop (mkF m pc Ls [w])) (T.setFrames fs) := by
  have hm' : T.vm.method? m = some meth := X.method'
  show Steps p.tables e below (T.setTop { method := m, pc := pc, locals := Ls, stack := [w], locked := none }) _
  jvm_step X.here [X.here.top, hx, hd, hm', hret, hv, ht]
  first | (intro acts; rw [hl _ acts rfl rfl rfl]) | rw [hl _ _ rfl rfl rfl]
  exact Steps.refl _
theorem winI (X : Stand p l e R s m args below meth c T locs cells slots) (hx : p.tables.exec = Jvm.exec) (hlk : meth.locks = false) (eT : T.heap = h) {pc : Nat} {Ls : Array Slot} {z : Int32} {rest : List Value} (hret : meth.sig.returnType = some .int) (hd : decode c.code pc = .ok (.ireturn, 1))
    (hc : cells ≤ C) (hs : slots ≤ S) (hQ : Q (some (.int z)) h locs) : Win p.tables e below (PostQ s Q C S) (T.setTop (mkF m pc Ls (.int z :: rest))) := by
  subst eT
  obtain ⟨fs, hr, hrun, hended, hW, hsame⟩ := X.leave (v := some (.int z)) (fun h => by rw [hret] at h; cases h) hlk
  exact ⟨_, _, retI' X hx hret hd hr, hrun, hended, _, _, rfl, hQ, ⟨_, rfl⟩, hW, hsame.mono hc hs⟩
theorem winN (X : Stand p l e R s m args below meth c T locs cells slots) (hx : p.tables.exec = Jvm.exec) (hlk : meth.locks = false) (eT : T.heap = h) {pc : Nat} {Ls : Array Slot} {z z' : Int32} {rest : List Value} {t : FieldType} (hret : meth.sig.returnType = some t) (ht : t = .boolean ∨ t = .byte ∨ t = .char ∨ t = .short) (hd : decode c.code pc = .ok (.ireturn, 1))
    (hc : cells ≤ C) (hs : slots ≤ S) (hz : nar t z = z') (hQ : Q (some (.int z')) h locs) : Win p.tables e below (PostQ s Q C S) (T.setTop (mkF m pc Ls (.int z :: rest))) := by
  subst eT hz
  obtain ⟨fs, hr, hrun, hended, hW, hsame⟩ := X.leave (v := some (.int (nar t z))) (fun h => by rw [hret] at h; cases h) hlk
  exact ⟨_, _, retN X hx hret ht hd hr, hrun, hended, _, _, rfl, hQ, ⟨_, rfl⟩, hW, hsame.mono hc hs⟩
theorem winL (X : Stand p l e R s m args below meth c T locs cells slots) (hx : p.tables.exec = Jvm.exec) (hlk : meth.locks = false) (eT : T.heap = h) {pc : Nat} {Ls : Array Slot} {z : Int64} (hret : meth.sig.returnType = some .long) (hd : decode c.code pc = .ok (.lreturn, 1))
    (hc : cells ≤ C) (hs : slots ≤ S) (hQ : Q (some (.long z)) h locs) : Win p.tables e below (PostQ s Q C S) (T.setTop (mkF m pc Ls [.long z])) := by
  subst eT
  obtain ⟨fs, hr, hrun, hended, hW, hsame⟩ := X.leave (v := some (.long z)) (fun h => by rw [hret] at h; cases h) hlk
  exact ⟨_, _, X.lreturnOut hx hret hd hr, hrun, hended, _, _, rfl, hQ, ⟨_, rfl⟩, hW, hsame.mono hc hs⟩
theorem winA (X : Stand p l e R s m args below meth c T locs cells slots) (hx : p.tables.exec = Jvm.exec) (hlk : meth.locks = false) (eT : T.heap = h) {pc : Nat} {Ls : Array Slot} {w : Value} {t : FieldType} (hret : meth.sig.returnType = some t) (ht : t.isReference = true) (hv : w.isRef = true) (hd : decode c.code pc = .ok (.areturn, 1))
    (hc : cells ≤ C) (hs : slots ≤ S) (hQ : Q (some w) h locs) : Win p.tables e below (PostQ s Q C S) (T.setTop (mkF m pc Ls [w])) := by
  subst eT
  obtain ⟨fs, hr, hrun, hended, hW, hsame⟩ := X.leave (v := some w) (fun h => by rw [hret] at h; cases h) hlk
  exact ⟨_, _, retA' X hx hret ht hv hd hr, hrun, hended, _, _, rfl, hQ, ⟨_, rfl⟩, hW, hsame.mono hc hs⟩
theorem winV (X : Stand p l e R s m args below meth c T locs cells slots) (hx : p.tables.exec = Jvm.exec) (hlk : meth.locks = false) (eT : T.heap = h) {pc : Nat} {Ls : Array Slot} (hret : meth.sig.returnType = none) (hd : decode c.code pc = .ok (.return_, 1))
    (hc : cells ≤ C) (hs : slots ≤ S) (hQ : Q none h locs) : Win p.tables e below (PostQ s Q C S) (T.setTop (mkF m pc Ls [])) := by
  subst eT
  obtain ⟨fs, hr, hrun, hended, hW, hsame⟩ := X.leave (v := none) (fun _ => rfl) hlk
  exact ⟨_, _, X.returnOut hx hret hd hr, hrun, hended, _, _, rfl, hQ, ⟨_, rfl⟩, hW, hsame.mono hc hs⟩
def PostQW (s : State) (Q : Option Value → Heap → List Loc → Prop) (C S : Nat) (u : State) (o : Outcome) : Prop := ∃ v L, o = .returned v ∧ Q v u.heap L ∧ ReturnedEndW s o u L C S
theorem winNW {vm0 : Vm} {k0 : Nat} (hS : s.Since vm0 k0) (hk : k0 ≤ h.size) (X : Stand p l e R (s.setVm vm0) m args below meth c T locs cells slots) (hx : p.tables.exec = Jvm.exec) (hlk : meth.locks = false) (eT : T.heap = h) {pc : Nat} {Ls : Array Slot} {z z' : Int32} {rest : List Value} {t : FieldType} (hret : meth.sig.returnType = some t) (ht : t = .boolean ∨ t = .byte ∨ t = .char ∨ t = .short) (hd : decode c.code pc = .ok (.ireturn, 1))
    (hc : cells ≤ C) (hs : slots ≤ S) (hz : nar t z = z') (hQ : Q (some (.int z')) h locs) : Win p.tables e below (PostQW s Q C S) (T.setTop (mkF m pc Ls (.int z :: rest))) := by
  subst eT hz
  obtain ⟨fs, hr, hrun, hended, h1, h2, h3, h4⟩ := X.leaveW hS hk (v := some (.int (nar t z))) (fun h => by rw [hret] at h; cases h) hlk
  exact ⟨_, _, retN X hx hret ht hd hr, hrun, hended, _, _, rfl, hQ, ⟨_, rfl⟩, h2, h3, h4.mono hc hs⟩
end Ret
section Steps
variable {tb : Tables} [Ours tb] {e : Env} {below : List Frame} {P : State → Outcome → Prop} {T : State} {m : MethodId} {c : Code} {pc pc' : Nat} {ls : Array Slot} {st : List Value}
theorem s_iloadN {k : Fin 4} {v : Int32} (h : At T m c below) (hx : tb.exec = Jvm.exec) (hd : decode c.code pc = .ok (.iload_n k, 1)) (hp : pc + 1 = pc') (hl : ls[k.val]? = some (.val (.int v))) (w : Win tb e below P (T.setTop (mkF m pc' ls (.int v :: st)))) : Win tb e below P (T.setTop (mkF m pc ls st)) := by
  subst hp; exact Win.go (fun _ k => XS.iloadN h hx rfl hd hl k) w
theorem s_iload {k : Nat} {v : Int32} (h : At T m c below) (hx : tb.exec = Jvm.exec) (hd : decode c.code pc = .ok (.iload k, 2)) (hp : pc + 2 = pc') (hl : ls[k]? = some (.val (.int v))) (w : Win tb e below P (T.setTop (mkF m pc' ls (.int v :: st)))) : Win tb e below P (T.setTop (mkF m pc ls st)) := by
  subst hp; exact Win.go (fun _ k => XS.iload h hx rfl hd hl k) w
theorem s_lloadN {k : Fin 4} {v : Int64} (h : At T m c below) (hx : tb.exec = Jvm.exec) (hd : decode c.code pc = .ok (.lload_n k, 1)) (hp : pc + 1 = pc') (hl : ls[k.val]? = some (.val (.long v))) (w : Win tb e below P (T.setTop (mkF m pc' ls (.long v :: st)))) : Win tb e below P (T.setTop (mkF m pc ls st)) := by
  subst hp; exact Win.go (fun _ k => XS.lloadN h hx rfl hd hl k) w
theorem s_lload {k : Nat} {v : Int64} (h : At T m c below) (hx : tb.exec = Jvm.exec) (hd : decode c.code pc = .ok (.lload k, 2)) (hp : pc + 2 = pc') (hl : ls[k]? = some (.val (.long v))) (w : Win tb e below P (T.setTop (mkF m pc' ls (.long v :: st)))) : Win tb e below P (T.setTop (mkF m pc ls st)) := by
  subst hp; exact Win.go (fun _ k => XS.lload h hx rfl hd hl k) w
theorem s_aloadN {k : Fin 4} {v : Value} (h : At T m c below) (hx : tb.exec = Jvm.exec) (hd : decode c.code pc = .ok (.aload_n k, 1)) (hp : pc + 1 = pc') (hl : ls[k.val]? = some (.val v)) (hv : v.isRef = true) (w : Win tb e below P (T.setTop (mkF m pc' ls (v :: st)))) : Win tb e below P (T.setTop (mkF m pc ls st)) := by
  subst hp; exact Win.go (fun _ k => XS.aloadN h hx rfl hd hl hv k) w
theorem s_aload {k : Nat} {v : Value} (h : At T m c below) (hx : tb.exec = Jvm.exec) (hd : decode c.code pc = .ok (.aload k, 2)) (hp : pc + 2 = pc') (hl : ls[k]? = some (.val v)) (hv : v.isRef = true) (w : Win tb e below P (T.setTop (mkF m pc' ls (v :: st)))) : Win tb e below P (T.setTop (mkF m pc ls st)) := by
  subst hp; exact Win.go (fun _ k => XS.aload h hx rfl hd hl hv k) w
theorem s_iadd {x y : Int32} (h : At T m c below) (hx : tb.exec = Jvm.exec) (hd : decode c.code pc = .ok (.iadd, 1)) (hp : pc + 1 = pc') (w : Win tb e below P (T.setTop (mkF m pc' ls (.int (x + y) :: st)))) : Win tb e below P (T.setTop (mkF m pc ls (.int y :: .int x :: st))) := by
  subst hp; exact Win.go (fun _ k => XS.iadd h hx rfl hd rfl k) w
theorem s_isub {x y : Int32} (h : At T m c below) (hx : tb.exec = Jvm.exec) (hd : decode c.code pc = .ok (.isub, 1)) (hp : pc + 1 = pc') (w : Win tb e below P (T.setTop (mkF m pc' ls (.int (x - y) :: st)))) : Win tb e below P (T.setTop (mkF m pc ls (.int y :: .int x :: st))) := by
  subst hp; exact Win.go (fun _ k => XS.isub h hx rfl hd rfl k) w
theorem s_imul {x y : Int32} (h : At T m c below) (hx : tb.exec = Jvm.exec) (hd : decode c.code pc = .ok (.imul, 1)) (hp : pc + 1 = pc') (w : Win tb e below P (T.setTop (mkF m pc' ls (.int (x * y) :: st)))) : Win tb e below P (T.setTop (mkF m pc ls (.int y :: .int x :: st))) := by
  subst hp; exact Win.go (fun _ k => XS.imul h hx rfl hd rfl k) w
theorem s_iand {x y : Int32} (h : At T m c below) (hx : tb.exec = Jvm.exec) (hd : decode c.code pc = .ok (.iand, 1)) (hp : pc + 1 = pc') (w : Win tb e below P (T.setTop (mkF m pc' ls (.int (x &&& y) :: st)))) : Win tb e below P (T.setTop (mkF m pc ls (.int y :: .int x :: st))) := by
  subst hp; exact Win.go (fun _ k => XS.iand h hx rfl hd rfl k) w
theorem s_ior {x y : Int32} (h : At T m c below) (hx : tb.exec = Jvm.exec) (hd : decode c.code pc = .ok (.ior, 1)) (hp : pc + 1 = pc') (w : Win tb e below P (T.setTop (mkF m pc' ls (.int (x ||| y) :: st)))) : Win tb e below P (T.setTop (mkF m pc ls (.int y :: .int x :: st))) := by
  subst hp; exact Win.go (fun _ k => XS.ior h hx rfl hd rfl k) w
theorem s_ixor {x y : Int32} (h : At T m c below) (hx : tb.exec = Jvm.exec) (hd : decode c.code pc = .ok (.ixor, 1)) (hp : pc + 1 = pc') (w : Win tb e below P (T.setTop (mkF m pc' ls (.int (x ^^^ y) :: st)))) : Win tb e below P (T.setTop (mkF m pc ls (.int y :: .int x :: st))) := by
  subst hp; exact Win.go (fun _ k => XS.ixor h hx rfl hd rfl k) w
theorem s_ladd {x y : Int64} (h : At T m c below) (hx : tb.exec = Jvm.exec) (hd : decode c.code pc = .ok (.ladd, 1)) (hp : pc + 1 = pc') (w : Win tb e below P (T.setTop (mkF m pc' ls (.long (x + y) :: st)))) : Win tb e below P (T.setTop (mkF m pc ls (.long y :: .long x :: st))) := by
  subst hp; exact Win.go (fun _ k => XS.ladd h hx rfl hd rfl k) w
theorem s_lsub {x y : Int64} (h : At T m c below) (hx : tb.exec = Jvm.exec) (hd : decode c.code pc = .ok (.lsub, 1)) (hp : pc + 1 = pc') (w : Win tb e below P (T.setTop (mkF m pc' ls (.long (x - y) :: st)))) : Win tb e below P (T.setTop (mkF m pc ls (.long y :: .long x :: st))) := by
  subst hp; exact Win.go (fun _ k => XS.lsub h hx rfl hd rfl k) w
theorem s_lmul {x y : Int64} (h : At T m c below) (hx : tb.exec = Jvm.exec) (hd : decode c.code pc = .ok (.lmul, 1)) (hp : pc + 1 = pc') (w : Win tb e below P (T.setTop (mkF m pc' ls (.long (x * y) :: st)))) : Win tb e below P (T.setTop (mkF m pc ls (.long y :: .long x :: st))) := by
  subst hp; exact Win.go (fun _ k => XS.lmul h hx rfl hd rfl k) w
theorem s_land {x y : Int64} (h : At T m c below) (hx : tb.exec = Jvm.exec) (hd : decode c.code pc = .ok (.land, 1)) (hp : pc + 1 = pc') (w : Win tb e below P (T.setTop (mkF m pc' ls (.long (x &&& y) :: st)))) : Win tb e below P (T.setTop (mkF m pc ls (.long y :: .long x :: st))) := by
  subst hp; exact Win.go (fun _ k => XS.land h hx rfl hd rfl k) w
theorem s_lor {x y : Int64} (h : At T m c below) (hx : tb.exec = Jvm.exec) (hd : decode c.code pc = .ok (.lor, 1)) (hp : pc + 1 = pc') (w : Win tb e below P (T.setTop (mkF m pc' ls (.long (x ||| y) :: st)))) : Win tb e below P (T.setTop (mkF m pc ls (.long y :: .long x :: st))) := by
  subst hp; exact Win.go (fun _ k => XS.lor h hx rfl hd rfl k) w
theorem s_lxor {x y : Int64} (h : At T m c below) (hx : tb.exec = Jvm.exec) (hd : decode c.code pc = .ok (.lxor, 1)) (hp : pc + 1 = pc') (w : Win tb e below P (T.setTop (mkF m pc' ls (.long (x ^^^ y) :: st)))) : Win tb e below P (T.setTop (mkF m pc ls (.long y :: .long x :: st))) := by
  subst hp; exact Win.go (fun _ k => XS.lxor h hx rfl hd rfl k) w
theorem s_iconst {i : Int} {z : Int32} (h : At T m c below) (hx : tb.exec = Jvm.exec) (hd : decode c.code pc = .ok (.iconst i, 1)) (hp : pc + 1 = pc') (hz : Int32.ofInt i = z) (w : Win tb e below P (T.setTop (mkF m pc' ls (.int z :: st)))) : Win tb e below P (T.setTop (mkF m pc ls st)) := by
  subst hp hz; exact Win.go (fun _ k => XS.iconst h hx rfl hd k) w
theorem s_bipush {i : Int} {z : Int32} (h : At T m c below) (hx : tb.exec = Jvm.exec) (hd : decode c.code pc = .ok (.bipush i, 2)) (hp : pc + 2 = pc') (hz : (Int8.ofInt i).toInt32 = z) (w : Win tb e below P (T.setTop (mkF m pc' ls (.int z :: st)))) : Win tb e below P (T.setTop (mkF m pc ls st)) := by
  subst hp hz; exact Win.go (fun _ k => XS.bipush h hx rfl hd k) w
theorem s_sipush {i : Int} {z : Int32} (h : At T m c below) (hx : tb.exec = Jvm.exec) (hd : decode c.code pc = .ok (.sipush i, 3)) (hp : pc + 3 = pc') (hz : (Int16.ofInt i).toInt32 = z) (w : Win tb e below P (T.setTop (mkF m pc' ls (.int z :: st)))) : Win tb e below P (T.setTop (mkF m pc ls st)) := by
  subst hp hz; exact Win.go (fun _ k => XS.sipush h hx rfl hd k) w
theorem s_lconst {i : Fin 2} {z : Int64} (h : At T m c below) (hx : tb.exec = Jvm.exec) (hd : decode c.code pc = .ok (.lconst i, 1)) (hp : pc + 1 = pc') (hz : Int64.ofNat i = z) (w : Win tb e below P (T.setTop (mkF m pc' ls (.long z :: st)))) : Win tb e below P (T.setTop (mkF m pc ls st)) := by
  subst hp hz; exact Win.go (fun _ k => XS.lconst h hx rfl hd k) w
theorem s_goto {o : Int} (h : At T m c below) (hx : tb.exec = Jvm.exec) (hd : decode c.code pc = .ok (.goto o, 3)) (ho : 0 ≤ (pc : Int) + o) (hp : ((pc : Int) + o).toNat = pc') (w : Win tb e below P (T.setTop (mkF m pc' ls st))) : Win tb e below P (T.setTop (mkF m pc ls st)) := by
  exact Win.go (fun _ k => XS.goto h hx rfl rfl hd ho hp k) w
theorem s_icmpYes {cd : ClassFile.Cond} {o : Int} {x y : Int32} (h : At T m c below) (hx : tb.exec = Jvm.exec) (hd : decode c.code pc = .ok (.if_icmp cd o, 3)) (hc : if_icmp.holds cd x y = true) (ho : 0 ≤ (pc : Int) + o) (hp : ((pc : Int) + o).toNat = pc') (w : Win tb e below P (T.setTop (mkF m pc' ls st))) : Win tb e below P (T.setTop (mkF m pc ls (.int y :: .int x :: st))) := by
  exact Win.go (fun _ k => XS.icmpYes h hx rfl rfl hd rfl hc ho hp k) w
theorem s_icmpNo {cd : ClassFile.Cond} {o : Int} {x y : Int32} (h : At T m c below) (hx : tb.exec = Jvm.exec) (hd : decode c.code pc = .ok (.if_icmp cd o, 3)) (hp : pc + 3 = pc') (hc : if_icmp.holds cd x y = false) (w : Win tb e below P (T.setTop (mkF m pc' ls st))) : Win tb e below P (T.setTop (mkF m pc ls (.int y :: .int x :: st))) := by
  subst hp; exact Win.go (fun _ k => XS.icmpNo h hx rfl hd rfl hc k) w
theorem s_ifYes {cd : ClassFile.Cond} {o : Int} {x : Int32} (h : At T m c below) (hx : tb.exec = Jvm.exec) (hd : decode c.code pc = .ok (.ifCond cd o, 3)) (hc : ifCond.holds cd x = true) (ho : 0 ≤ (pc : Int) + o) (hp : ((pc : Int) + o).toNat = pc') (w : Win tb e below P (T.setTop (mkF m pc' ls st))) : Win tb e below P (T.setTop (mkF m pc ls (.int x :: st))) := by
  exact Win.go (fun _ k => XS.ifYes h hx rfl rfl hd rfl hc ho hp k) w
theorem s_ifNo {cd : ClassFile.Cond} {o : Int} {x : Int32} (h : At T m c below) (hx : tb.exec = Jvm.exec) (hd : decode c.code pc = .ok (.ifCond cd o, 3)) (hp : pc + 3 = pc') (hc : ifCond.holds cd x = false) (w : Win tb e below P (T.setTop (mkF m pc' ls st))) : Win tb e below P (T.setTop (mkF m pc ls (.int x :: st))) := by
  subst hp; exact Win.go (fun _ k => XS.ifNo h hx rfl hd rfl hc k) w
theorem s_lcmp {x y : Int64} (h : At T m c below) (hx : tb.exec = Jvm.exec) (hd : decode c.code pc = .ok (.lcmp, 1)) (hp : pc + 1 = pc') (w : Win tb e below P (T.setTop (mkF m pc' ls (.int (lcmpW x y) :: st)))) : Win tb e below P (T.setTop (mkF m pc ls (.long y :: .long x :: st))) := by
  subst hp; exact Win.go (fun _ k => XS.lcmp h hx rfl hd rfl k) w
theorem s_istore {k : Nat} {x : Int32} {l' : Array Slot} (h : At T m c below) (hx : tb.exec = Jvm.exec) (hd : decode c.code pc = .ok (.istore k, 2)) (hp : pc + 2 = pc') (hl : storeLocals ls k (.int x) = some l') (w : Win tb e below P (T.setTop (mkF m pc' l' st))) : Win tb e below P (T.setTop (mkF m pc ls (.int x :: st))) := by
  subst hp; exact Win.go (fun _ k => XS.istore h hx rfl hd rfl hl k) w
theorem s_istoreN {k : Fin 4} {x : Int32} {l' : Array Slot} (h : At T m c below) (hx : tb.exec = Jvm.exec) (hd : decode c.code pc = .ok (.istore_n k, 1)) (hp : pc + 1 = pc') (hl : storeLocals ls k.val (.int x) = some l') (w : Win tb e below P (T.setTop (mkF m pc' l' st))) : Win tb e below P (T.setTop (mkF m pc ls (.int x :: st))) := by
  subst hp; exact Win.go (fun _ k => XS.istoreN h hx rfl hd rfl hl k) w
theorem s_lstore {k : Nat} {x : Int64} {l' : Array Slot} (h : At T m c below) (hx : tb.exec = Jvm.exec) (hd : decode c.code pc = .ok (.lstore k, 2)) (hp : pc + 2 = pc') (hl : storeLocals ls k (.long x) = some l') (w : Win tb e below P (T.setTop (mkF m pc' l' st))) : Win tb e below P (T.setTop (mkF m pc ls (.long x :: st))) := by
  subst hp; exact Win.go (fun _ k => XS.lstore h hx rfl hd rfl hl k) w
theorem s_lstoreN {k : Fin 4} {x : Int64} {l' : Array Slot} (h : At T m c below) (hx : tb.exec = Jvm.exec) (hd : decode c.code pc = .ok (.lstore_n k, 1)) (hp : pc + 1 = pc') (hl : storeLocals ls k.val (.long x) = some l') (w : Win tb e below P (T.setTop (mkF m pc' l' st))) : Win tb e below P (T.setTop (mkF m pc ls (.long x :: st))) := by
  subst hp; exact Win.go (fun _ k => XS.lstoreN h hx rfl hd rfl hl k) w
theorem s_astore {k : Nat} {x : Value} {l' : Array Slot} (h : At T m c below) (hx : tb.exec = Jvm.exec) (hd : decode c.code pc = .ok (.astore k, 2)) (hp : pc + 2 = pc') (hv : x.isRef = true) (hl : storeLocals ls k x = some l') (w : Win tb e below P (T.setTop (mkF m pc' l' st))) : Win tb e below P (T.setTop (mkF m pc ls (x :: st))) := by
  subst hp; exact Win.go (fun _ k => XS.astore h hx rfl hd rfl hv hl k) w
theorem s_astoreN {k : Fin 4} {x : Value} {l' : Array Slot} (h : At T m c below) (hx : tb.exec = Jvm.exec) (hd : decode c.code pc = .ok (.astore_n k, 1)) (hp : pc + 1 = pc') (hv : x.isRef = true) (hl : storeLocals ls k.val x = some l') (w : Win tb e below P (T.setTop (mkF m pc' l' st))) : Win tb e below P (T.setTop (mkF m pc ls (x :: st))) := by
  subst hp; exact Win.go (fun _ k => XS.astoreN h hx rfl hd rfl hv hl k) w
theorem s_dup {x : Value} (h : At T m c below) (hx : tb.exec = Jvm.exec) (hd : decode c.code pc = .ok (.dup, 1)) (hp : pc + 1 = pc') (hc : x.category = 1) (w : Win tb e below P (T.setTop (mkF m pc' ls (x :: x :: st)))) : Win tb e below P (T.setTop (mkF m pc ls (x :: st))) := by
  subst hp; exact Win.go (fun _ k => XS.dup h hx rfl hd rfl hc k) w
end Steps
/-- an array of ints by its places: place j holds f j -/
def AF (Z : State) (h : Heap) (a : Addr) (ty : FieldType) (n : Nat) (f : Int → Int32) : Prop := ∃ cl : Cell, Arr Z h a cl ty ∧ cl.slots.size = n ∧ ∀ j : Int32, 0 ≤ j.toInt → j.toInt < n → cl.slots[j.toNatClampNeg]? = some (.int (f j.toInt))
section AFs
variable {Z : State} {h h' : Heap} {a b : Addr} {ty : FieldType} {n : Nat} {f : Int → Int32} {ws : List Addr} {sl : Nat} {v : Value}
theorem AF.lt (F : AF Z h a ty n f) : a < h.size := by obtain ⟨c, A, -⟩ := F; exact A.lt
theorem AF.ext (F : AF Z h a ty n f) (E : Ext h h') : AF Z h' a ty n f := by obtain ⟨c, A, r⟩ := F; exact ⟨c, A.ext E, r⟩
theorem AF.other (F : AF Z h b ty n f) (W : Wr h h' a sl v) (q : b ≠ a) : AF Z h' b ty n f := by obtain ⟨c, A, r⟩ := F; exact ⟨c, A.other W q, r⟩
theorem AF.keep (F : AF Z h a ty n f) (K : Keep h h' ws) (q : a ∉ ws) : AF Z h' a ty n f := by obtain ⟨c, A, r⟩ := F; exact ⟨c, ⟨K.2.1 a c A.1 q, A.2⟩, r⟩
theorem AF.inb {c : Cell} {j : Int32} (S : c.slots.size = n) (q : 0 ≤ j.toInt ∧ j.toInt < n) : ¬ (j < 0 ∨ c.slots.size ≤ j.toNatClampNeg) := by
  rw [S, Int32.lt_iff_toInt_lt]; have e0 : (0 : Int32).toInt = 0 := rfl
  simp only [Int32.toNatClampNeg]; omega
def updF (f : Int → Int32) (j : Int) (v : Int32) : Int → Int32 := fun i => if i = j then v else f i
theorem updF_hit (f : Int → Int32) (j : Int) (v : Int32) : updF f j v j = v := if_pos rfl
theorem updF_miss {f : Int → Int32} {i j : Int} {v : Int32} (q : i ≠ j) : updF f j v i = f i := if_neg q
theorem AF.set {cl : Cell} {j v : Int32} (A : Arr Z h a cl ty) (S : cl.slots.size = n) (G : ∀ j : Int32, 0 ≤ j.toInt → j.toInt < n → cl.slots[j.toNatClampNeg]? = some (.int (f j.toInt))) (W : Wr h h' a j.toNatClampNeg (.int v)) (q : 0 ≤ j.toInt ∧ j.toInt < n) : AF Z h' a ty n (updF f j.toInt v) := by
  have e0 : (0 : Int32).toInt = 0 := rfl
  refine ⟨_, A.same W, by rw [sz_set]; exact S, fun k h0 h1 => ?_⟩
  by_cases e : k = j
  · subst e; rw [get_hit (AF.inb S q) rfl, updF_hit]
  · rw [get_miss (by rw [Int32.lt_iff_toInt_lt]; omega) (by rw [Int32.lt_iff_toInt_lt]; omega) e, updF_miss (fun z => e (Int32.toInt_inj.mp z))]; exact G k h0 h1
theorem AF.zero {k : ClassId} {z : Int32} (F : Arv Z h a k ty z [] (.int 0)) (q : z.toNatClampNeg = n) : AF Z h a ty n (fun _ => 0) := by
  obtain ⟨c, A, -, S, -, H, -⟩ := F
  refine ⟨c, A, S.trans q, fun j h0 h1 => ?_⟩
  have e : j.toNatClampNeg = j.toInt.toNat := rfl
  exact H _ (by rw [S, q, e]; omega)
theorem AF.ex {k : ClassId} {z : Int32} {vs : List Value} {dv : Value} (F : Arv Z h a k .byte z vs dv) (q : z.toNatClampNeg = n) : ∃ f, AF Z h a .byte n f := by
  obtain ⟨c, A, -, S, -, H, G⟩ := F
  refine ⟨fun i => match c.slots[i.toNat]? with | some (.int x) => x | _ => 0, c, A, S.trans q, fun j h0 h1 => ?_⟩
  have e : j.toNatClampNeg = j.toInt.toNat := rfl
  have hj : j.toInt.toNat < c.slots.size := by rw [S, q]; omega
  have e1 := H _ hj
  have e2 := G _ hj
  show c.slots[j.toInt.toNat]? = some (.int (match c.slots[j.toInt.toNat]? with | some (.int x) => x | _ => 0))
  cases hv : vs.getD j.toInt.toNat dv <;> rw [hv] at e1 e2 <;> first | (rw [e1]; done) | (exact absurd e2 (by simp [fits]))
/-- a byte array of length z -/
def BA (Z : State) (h : Heap) (a : Addr) (z : Int32) : Prop := ∃ (k : ClassId) (vs : List Value), Arv Z h a k .byte z vs (.int 0)
variable {z : Int32}
theorem BA.lt (F : BA Z h a z) : a < h.size := by obtain ⟨_, _, A⟩ := F; exact A.lt
theorem BA.ext (F : BA Z h a z) (E : Ext h h') : BA Z h' a z := by obtain ⟨k, vs, A⟩ := F; exact ⟨k, vs, A.ext E⟩
theorem BA.other (F : BA Z h b z) (W : Wr h h' a sl v) (q : b ≠ a) : BA Z h' b z := by obtain ⟨k, vs, A⟩ := F; exact ⟨k, vs, A.other W q⟩
theorem BA.keep (F : BA Z h a z) (K : Keep h h' ws) (q : a ∉ ws) : BA Z h' a z := by obtain ⟨k, vs, A⟩ := F; exact ⟨k, vs, A.keep K q⟩
theorem cpBA {p : Program} {l : Launch} {e : Env} {R : Room} {s : State} {m : MethodId} {args : Array Value} {below : List Frame} {meth : Method} {c : Code} {T : State} {locs : List Loc} {cells slots : Nat}
    (X : Stand p l e R s m args below meth c T locs cells slots) (hx : p.tables.exec = Jvm.exec) (hZ : Z.Warmed39 s.vm) {a0 : Array Value} {own : String} {index : Nat} (hown : s.vm.findClass own = some m.cls)
    (w1 : (Cond.methodLink own index Jvm.Stand.acN).before a0 Z = true) (w2 : (Cond.native Jvm.Stand.acN).before a0 Z = true) (w3 : (Cond.static Jvm.Stand.acN).before a0 Z = true) (w4 : (Cond.initialized "java/lang/System").before a0 Z = true) (eT : T.heap = h)
    {z' sp dp nn : Int32} (A : BA Z h a z) (B : BA Z h b z') (h1 : 0 ≤ sp.toInt) (h2 : 0 ≤ dp.toInt) (h3 : 0 ≤ nn.toInt) (h4 : sp.toInt + nn.toInt ≤ z.toInt) (h5 : dp.toInt + nn.toInt ≤ z'.toInt) {n0 : Nat} (N : Fr n0 locs) (ge : n0 ≤ b)
    {g : JFrame} (hg : g.method = m) (hsize : g.locals.size = c.maxLocals) {rest : List Value} (hs : g.stack = .int nn :: .int dp :: .ref b :: .int sp :: .ref a :: rest) (hd : decode c.code g.pc = .ok (.invokestatic index, 3))
    (hf : 1 ≤ R.frames) {W : Nat} (hW : 2 * g.monitorRoom + (rest.map fun v => v.category).sum ≤ W) (hlo : W + (nativeFrameWords "java/lang/System" "arraycopy" 5 + 11) ≤ R.locals) :
    ∃ T' h' L, Stand p l e R s m args below meth c T' L cells slots ∧ T'.heap = h' ∧ Fr n0 L ∧ Keep h h' [b] ∧ BA Z h' b z' ∧
      ∀ target, Steps p.tables e below (T'.setTop { g with pc := g.pc + 3, stack := rest }) target → Steps p.tables e below (T.setTop g) target := by
  have e0 : (0 : Int32).toInt = 0 := rfl
  obtain ⟨k, vs, A⟩ := A
  obtain ⟨k', vd, B⟩ := B
  have B' := B.pad (pad_rep vd (.int 0) z'.toNatClampNeg)
  obtain ⟨T', h', L, X', e', N', K, B2, st⟩ := cpA X hx hZ hown w1 w2 w3 w4 eT A B' (Or.inl ⟨rfl, rfl⟩) (by rw [Int32.lt_iff_toInt_lt]; omega) (by rw [Int32.lt_iff_toInt_lt]; omega) (by rw [Int32.lt_iff_toInt_lt]; omega) (by simp only [Int32.toNatClampNeg]; omega) (by simp only [Int32.toNatClampNeg]; omega) rfl (by simp only [List.length_append, List.length_replicate, Int32.toNatClampNeg]; omega) N ge hg hsize hs hd hf hW hlo
  exact ⟨T', h', L, X', e', N', K, ⟨k', _, B2⟩, st⟩
end AFs
theorem own_selPriv {s : State} {args : Array Value} {y y' : MethodName} (hn : y.cls = y'.cls) (w : (Cond.selects y'.cls y' y').before args s = true) (hpriv : s.PrivateAt y) (hinst : (Cond.instanceMethod y).before args s = true) (hy : y.cls ≠ "java/lang/invoke/MethodHandle" ∧ y.cls ≠ "java/lang/invoke/VarHandle") : (Cond.selects y.cls y y).before args s = true := by
  obtain ⟨c, r, m, h1, -, h3, -, k, h5, h6⟩ := Cond.selects_spec w
  have h7 := findClass_of_methodNamed h3
  cases h1.symm.trans h7
  exact selects_self_of_private (by rw [hn]; exact h7) h5 h6 hpriv hinst hy
theorem own_lremEq (x y : Int64) : x - (x / y) * y = x % y := by
  refine Int64.toInt_inj.mp ?_
  have h1 := rng64 (x % y)
  have e : x.toInt - x.toInt.tdiv y.toInt * y.toInt = (x % y).toInt := by rw [Int64.toInt_mod, Int.tmod_def, Int.mul_comm]
  rw [Int64.toInt_sub, Int64.toInt_mul, Int64.toInt_div, Int.bmod_mul_bmod, Int.sub_bmod_bmod, e]
  exact Int.bmod_eq_of_le_mul_two (by omega) (by omega)
theorem lremM {p : Program} {l : Launch} {e : Env} {R : Room} {s : State} {m : MethodId} {args : Array Value} {below : List Frame} {meth : Method} {c : Code} {T : State} {locs : List Loc} {cells slots : Nat} {g : JFrame} {target : State} (X : Stand p l e R s m args below meth c T locs cells slots) (hx : p.tables.exec = Jvm.exec) (hg : g.method = m) {x y : Int64} {rest : List Value} (hd : decode c.code g.pc = .ok (.lrem, 1)) (hs : g.stack = .long y :: .long x :: rest) (hy : y ≠ 0)
    (hr : Steps p.tables e below (T.setTop { g with pc := g.pc + 1, stack := .long (x % y) :: rest }) target) : Steps p.tables e below (T.setTop g) target :=
  XS.lrem X.here hx hg hd hs hy (by rw [own_lremEq]; exact hr)
/-! comparisons by the numbers -/
theorem tltI {x y : Int32} (h : x.toInt < y.toInt) : if_icmp.holds .lt x y = true ∧ if_icmp.holds .ge x y = false ∧ if_icmp.holds .gt y x = true ∧ if_icmp.holds .le y x = false := tlt (Int32.lt_iff_toInt_lt.mpr h)
theorem fltI {x y : Int32} (h : ¬ x.toInt < y.toInt) : if_icmp.holds .lt x y = false ∧ if_icmp.holds .ge x y = true ∧ if_icmp.holds .gt y x = false ∧ if_icmp.holds .le y x = true := flt (fun q => h (Int32.lt_iff_toInt_lt.mp q))
theorem teqI {x y : Int32} (h : x.toInt = y.toInt) : if_icmp.holds .eq x y = true ∧ if_icmp.holds .ne x y = false := teq (Int32.toInt_inj.mp h)
theorem feqI {x y : Int32} (h : ¬ x.toInt = y.toInt) : if_icmp.holds .eq x y = false ∧ if_icmp.holds .ne x y = true := feq (fun q => h (congrArg _ q))
theorem tltZ {x y : Int32} (h : x.toInt < y.toInt) : (y = 0 → ifCond.holds .lt x = true ∧ ifCond.holds .ge x = false) ∧ (x = 0 → ifCond.holds .gt y = true ∧ ifCond.holds .le y = false) :=
  ⟨fun q => by subst q; exact ⟨(if0 _ _).trans (tltI h).1, (if0 _ _).trans (tltI h).2.1⟩, fun q => by subst q; exact ⟨(if0 _ _).trans (tltI h).2.2.1, (if0 _ _).trans (tltI h).2.2.2⟩⟩
theorem tltL {x y : Int64} (h : x.toInt < y.toInt) : ifCond.holds .lt (lcmpW x y) = true ∧ ifCond.holds .ge (lcmpW x y) = false ∧ ifCond.holds .gt (lcmpW y x) = true ∧ ifCond.holds .le (lcmpW y x) = false :=
  have h' := Int64.lt_iff_toInt_lt.mpr h
  ⟨(if0 _ _).trans (tlt ((lw_lt x y).mpr h')).1, (if0 _ _).trans (tlt ((lw_lt x y).mpr h')).2.1, (if0 _ _).trans (tlt ((lw_gt y x).mpr h')).2.2.1, (if0 _ _).trans (tlt ((lw_gt y x).mpr h')).2.2.2⟩
theorem fltL {x y : Int64} (h : ¬ x.toInt < y.toInt) : ifCond.holds .lt (lcmpW x y) = false ∧ ifCond.holds .ge (lcmpW x y) = true ∧ ifCond.holds .gt (lcmpW y x) = false ∧ ifCond.holds .le (lcmpW y x) = true :=
  have h1 : ¬ lcmpW x y < 0 := fun q => h (Int64.lt_iff_toInt_lt.mp ((lw_lt x y).mp q))
  have h2 : ¬ 0 < lcmpW y x := fun q => h (Int64.lt_iff_toInt_lt.mp ((lw_gt y x).mp q))
  ⟨(if0 _ _).trans (flt h1).1, (if0 _ _).trans (flt h1).2.1, (if0 _ _).trans (flt h2).2.2.1, (if0 _ _).trans (flt h2).2.2.2⟩
theorem teqL {x y : Int64} (h : x.toInt = y.toInt) : ifCond.holds .eq (lcmpW x y) = true ∧ ifCond.holds .ne (lcmpW x y) = false :=
  have h' := (lw_eq x y).mpr (Int64.toInt_inj.mp h)
  ⟨(if0 _ _).trans (teq h').1, (if0 _ _).trans (teq h').2⟩
theorem feqL {x y : Int64} (h : ¬ x.toInt = y.toInt) : ifCond.holds .eq (lcmpW x y) = false ∧ ifCond.holds .ne (lcmpW x y) = true :=
  have h' : ¬ lcmpW x y = 0 := fun q => h (congrArg _ ((lw_eq x y).mp q))
  ⟨(if0 _ _).trans (feq h').1, (if0 _ _).trans (feq h').2⟩
end Jvm.OwnWalk
namespace Jvm.Pilot.@@N@@
open Jvm Jvm.ClassFile Sem Op Lib Jvm.Free Jvm.Stand Jvm.LawKit Jvm.RoadKit Bundle Jvm.OwnWalk Jvm.Pilot.@@N@@.Jvm.D
theorem own_fin {v : Int32} {N : Nat} (h0 : 0 ≤ v.toInt) (h1 : v.toInt < N) : ∃ k : Fin N, v = Int32.ofNat k.val := by
  refine ⟨⟨v.toInt.toNat, by omega⟩, Int32.toInt_inj.mp ?_⟩
  have := v.toInt_lt
  rw [Int32.toInt_ofNat_of_lt (by simp only; omega)]; simp only; omega
theorem own_four {v : Int32} (h0 : 0 ≤ v.toInt) (h1 : v.toInt ≤ 3) : v = 0 ∨ v = 1 ∨ v = 2 ∨ v = 3 := by
  have e : ∀ k : Int32, v.toInt = k.toInt → v = k := fun k q => Int32.toInt_inj.mp q
  have : v.toInt = 0 ∨ v.toInt = 1 ∨ v.toInt = 2 ∨ v.toInt = 3 := by omega
  rcases this with q | q | q | q
  · exact Or.inl (e 0 q)
  · exact Or.inr (Or.inl (e 1 q))
  · exact Or.inr (Or.inr (Or.inl (e 2 q)))
  · exact Or.inr (Or.inr (Or.inr (e 3 q)))
theorem d1_0 : decode prog_2_method_14_code 0 = .ok (.aload_n 0, 1) := by decide +kernel
theorem d1_1 : decode prog_2_method_14_code 1 = .ok (.astore_n 1, 1) := by decide +kernel
theorem d1_2 : decode prog_2_method_14_code 2 = .ok (.aload_n 1, 1) := by decide +kernel
theorem d1_3 : decode prog_2_method_14_code 3 = .ok (.arraylength, 1) := by decide +kernel
theorem d1_4 : decode prog_2_method_14_code 4 = .ok (.istore_n 2, 1) := by decide +kernel
theorem d1_5 : decode prog_2_method_14_code 5 = .ok (.iconst 0, 1) := by decide +kernel
theorem d1_6 : decode prog_2_method_14_code 6 = .ok (.istore_n 3, 1) := by decide +kernel
theorem d1_7 : decode prog_2_method_14_code 7 = .ok (.iload_n 3, 1) := by decide +kernel
theorem d1_8 : decode prog_2_method_14_code 8 = .ok (.iload_n 2, 1) := by decide +kernel
theorem d1_9 : decode prog_2_method_14_code 9 = .ok (.if_icmp .ge 23, 3) := by decide +kernel
theorem d1_32 : decode prog_2_method_14_code 32 = .ok (.iconst 1, 1) := by decide +kernel
theorem d1_33 : decode prog_2_method_14_code 33 = .ok (.ireturn, 1) := by decide +kernel
theorem pn_1 : plainName "com/example/faithful_deputy/faithfuldeputy/Bits" = true := by first | (simp [plainName, overriddenIn]; done) | decide +kernel
theorem ef_1_0 (m : MethodId) (a : Addr) : entryFrame m #[(.ref a)] 6 = mkF m 0 #[.val (.ref a), .unset, .unset, .unset, .unset, .unset] [] := by first | (simp [entryFrame, mkF, argsToLocals, Value.category]; done) | rfl
def Q1_0 (Z : State) (a : Addr) (kk : ClassId) (h0 : Heap) (n0 : Nat) (v : Option Value) (h : Heap) (L : List Loc) : Prop := Fr n0 L ∧ h = h0 ∧ (∃ z : Int32, v = some (.int z) ∧ ((z.toInt = 1 ∧ ((0 : Int) = 0)) ∨ (z.toInt = 0 ∧ ¬ ((0 : Int) = 0))))
set_option maxRecDepth 65536 in
set_option maxHeartbeats 40000000 in
theorem rm1_0 (l : Launch) (Z : State) (a0 : Array Value) (hw : ∀ d ∈ tables_1, d.before a0 Z = true) (ws : List Jvm.Cond) (a : Addr) (kk : ClassId) (h0 : Heap) (n0 : Nat) (Zs : n0 ≤ h0.size) (V_a : Arv Z h0 a kk .long (0 : Int32) [] (.long (0 : Int64))) :
    MetFree l (⟨"com/example/faithful_deputy/faithfuldeputy/Bits", "isEmpty", "([J)Z"⟩ : MethodName) (head1 (Jvm.Cond.code (⟨"com/example/faithful_deputy/faithfuldeputy/Bits", "isEmpty", "([J)Z"⟩ : MethodName) prog_2_method_14_code 6 (some .boolean) :: ws) ({ frames := 0, cells := 0, slots := 0, locals := 0 } : Room)) (fun as' U => as' = #[(.ref a)] ∧ Z.Warmed39 U.vm ∧ U.heap = h0) (fun _ _ _ _ _ => True) (fun _ U o U' => ∃ v L, o = .returned v ∧ Q1_0 Z a kk h0 n0 v U'.heap L ∧ FrameEnd U o U' L ({ frames := 0, cells := 0, slots := 0, locals := 0 } : Room).cells ({ frames := 0, cells := 0, slots := 0, locals := 0 } : Room).slots) := by
  refine MetFree.of_bodySF (plainFor_of_name pn_1) hisR ?_
  intro p e s m args below meth c s₁ Bd hml0 hP hK
  obtain ⟨rfl, hZ, hh⟩ := hP
  have hx := Bd.exec
  have hby := Bd.bytes
  have hml : c.maxLocals = 6 := hml0
  have hown : s.vm.findClass "com/example/faithful_deputy/faithfuldeputy/Bits" = some m.cls := findClass_of_methodNamed Bd.named
  have hnm := (name_of_methodNamed Bd.named Bd.method).1
  have hlk : meth.locks = false := Bd.notSynchronized
  have X0 : Stand p l e ({ frames := 0, cells := 0, slots := 0, locals := 0 } : Room) s m #[(.ref a)] below meth c s₁ [] 0 0 := Stand.of_body Bd
  have e0 : s₁.heap = h0 := by rw [← hh, Bd.state]; rfl
  have Nf := Fr.nil n0
  refine (?_ : Win p.tables e below (PostQ s (Q1_0 Z a kk h0 n0) ({ frames := 0, cells := 0, slots := 0, locals := 0 } : Room).cells ({ frames := 0, cells := 0, slots := 0, locals := 0 } : Room).slots) (s₁.setTop (entryFrame m #[(.ref a)] 6)))
  rw [ef_1_0]
  have lt_a : a < h0.size := V_a.lt
  show Win p.tables e below _ (s₁.setTop (mkF m 0 #[.val (.ref a), .unset, .unset, .unset, .unset, .unset] []))
  refine s_aloadN (pc' := 1) X0.here hx (hb hby d1_0) rfl rfl rfl ?_
  refine s_astoreN (pc' := 2) (l' := #[.val (.ref a), .val (.ref a), .unset, .unset, .unset, .unset]) X0.here hx (hb hby d1_1) rfl rfl rfl ?_
  refine s_aloadN (pc' := 3) X0.here hx (hb hby d1_2) rfl rfl rfl ?_
  obtain ⟨cl_1, Ar_1, q_1, S_1, N_1, H_1, G_1⟩ := id V_a
  refine Win.go (fun _ k => X0.arraylength hx (by rw [e0]; exact Ar_1.1) (State.isArrayOf_alike hZ.alike Ar_1.2.1) (g := (mkF m 3 #[.val (.ref a), .val (.ref a), .unset, .unset, .unset, .unset] [(.ref a)])) rfl rfl (hb hby d1_3) _ k) ?_
  rw [len_of S_1 N_1]
  show Win p.tables e below _ (s₁.setTop (mkF m 4 #[.val (.ref a), .val (.ref a), .unset, .unset, .unset, .unset] [(.int (0 : Int32))]))
  refine s_istoreN (pc' := 5) (l' := #[.val (.ref a), .val (.ref a), .val (.int (0 : Int32)), .unset, .unset, .unset]) X0.here hx (hb hby d1_4) rfl rfl ?_
  refine s_iconst (pc' := 6) (z := (0 : Int32)) X0.here hx (hb hby d1_5) rfl rfl ?_
  refine s_istoreN (pc' := 7) (l' := #[.val (.ref a), .val (.ref a), .val (.int (0 : Int32)), .val (.int (0 : Int32)), .unset, .unset]) X0.here hx (hb hby d1_6) rfl rfl ?_
  refine s_iloadN (pc' := 8) X0.here hx (hb hby d1_7) rfl rfl ?_
  refine s_iloadN (pc' := 9) X0.here hx (hb hby d1_8) rfl rfl ?_
  refine s_icmpYes (pc' := 32) X0.here hx (hb hby d1_9) (fltI (x := (0 : Int32)) (y := (0 : Int32)) (by decide)).2.1 (by decide) (by decide) ?_
  refine s_iconst (pc' := 33) (z := (1 : Int32)) X0.here hx (hb hby d1_32) rfl rfl ?_
  refine winN X0 hx hlk e0 (t := .boolean) Bd.returns (by simp) (hb hby d1_33) (by decide) (by decide) (z' := (1 : Int32)) rfl ?_
  refine ⟨Nf, rfl, _, rfl, Or.inl ⟨rfl, ?_⟩⟩
  omega
theorem d1_12 : decode prog_2_method_14_code 12 = .ok (.aload_n 1, 1) := by decide +kernel
theorem d1_13 : decode prog_2_method_14_code 13 = .ok (.iload_n 3, 1) := by decide +kernel
theorem d1_14 : decode prog_2_method_14_code 14 = .ok (.laload, 1) := by decide +kernel
theorem d1_15 : decode prog_2_method_14_code 15 = .ok (.lstore 4, 2) := by decide +kernel
theorem d1_17 : decode prog_2_method_14_code 17 = .ok (.lload 4, 2) := by decide +kernel
theorem d1_19 : decode prog_2_method_14_code 19 = .ok (.lconst 0, 1) := by decide +kernel
theorem d1_20 : decode prog_2_method_14_code 20 = .ok (.lcmp, 1) := by decide +kernel
theorem d1_21 : decode prog_2_method_14_code 21 = .ok (.ifCond .eq 5, 3) := by decide +kernel
theorem d1_24 : decode prog_2_method_14_code 24 = .ok (.iconst 0, 1) := by decide +kernel
theorem d1_25 : decode prog_2_method_14_code 25 = .ok (.ireturn, 1) := by decide +kernel
theorem d1_26 : decode prog_2_method_14_code 26 = .ok (.iinc 3 1, 3) := by decide +kernel
theorem d1_29 : decode prog_2_method_14_code 29 = .ok (.goto (-22), 3) := by decide +kernel
theorem ef_1_1 (m : MethodId) (a : Addr) : entryFrame m #[(.ref a)] 6 = mkF m 0 #[.val (.ref a), .unset, .unset, .unset, .unset, .unset] [] := by first | (simp [entryFrame, mkF, argsToLocals, Value.category]; done) | rfl
def Q1_1 (Z : State) (a : Addr) (kk : ClassId) (v0 : Int64) (h0 : Heap) (n0 : Nat) (v : Option Value) (h : Heap) (L : List Loc) : Prop := Fr n0 L ∧ h = h0 ∧ (∃ z : Int32, v = some (.int z) ∧ ((z.toInt = 1 ∧ (v0.toInt = 0)) ∨ (z.toInt = 0 ∧ ¬ (v0.toInt = 0))))
set_option maxRecDepth 65536 in
set_option maxHeartbeats 40000000 in
theorem rm1_1 (l : Launch) (Z : State) (a0 : Array Value) (hw : ∀ d ∈ tables_1, d.before a0 Z = true) (ws : List Jvm.Cond) (a : Addr) (kk : ClassId) (v0 : Int64) (h0 : Heap) (n0 : Nat) (Zs : n0 ≤ h0.size) (V_a : Arv Z h0 a kk .long (1 : Int32) [(.long v0)] (.long (0 : Int64))) :
    MetFree l (⟨"com/example/faithful_deputy/faithfuldeputy/Bits", "isEmpty", "([J)Z"⟩ : MethodName) (head1 (Jvm.Cond.code (⟨"com/example/faithful_deputy/faithfuldeputy/Bits", "isEmpty", "([J)Z"⟩ : MethodName) prog_2_method_14_code 6 (some .boolean) :: ws) ({ frames := 0, cells := 0, slots := 0, locals := 0 } : Room)) (fun as' U => as' = #[(.ref a)] ∧ Z.Warmed39 U.vm ∧ U.heap = h0) (fun _ _ _ _ _ => True) (fun _ U o U' => ∃ v L, o = .returned v ∧ Q1_1 Z a kk v0 h0 n0 v U'.heap L ∧ FrameEnd U o U' L ({ frames := 0, cells := 0, slots := 0, locals := 0 } : Room).cells ({ frames := 0, cells := 0, slots := 0, locals := 0 } : Room).slots) := by
  refine MetFree.of_bodySF (plainFor_of_name pn_1) hisR ?_
  intro p e s m args below meth c s₁ Bd hml0 hP hK
  obtain ⟨rfl, hZ, hh⟩ := hP
  have hx := Bd.exec
  have hby := Bd.bytes
  have hml : c.maxLocals = 6 := hml0
  have hown : s.vm.findClass "com/example/faithful_deputy/faithfuldeputy/Bits" = some m.cls := findClass_of_methodNamed Bd.named
  have hnm := (name_of_methodNamed Bd.named Bd.method).1
  have hlk : meth.locks = false := Bd.notSynchronized
  have X0 : Stand p l e ({ frames := 0, cells := 0, slots := 0, locals := 0 } : Room) s m #[(.ref a)] below meth c s₁ [] 0 0 := Stand.of_body Bd
  have e0 : s₁.heap = h0 := by rw [← hh, Bd.state]; rfl
  have Nf := Fr.nil n0
  refine (?_ : Win p.tables e below (PostQ s (Q1_1 Z a kk v0 h0 n0) ({ frames := 0, cells := 0, slots := 0, locals := 0 } : Room).cells ({ frames := 0, cells := 0, slots := 0, locals := 0 } : Room).slots) (s₁.setTop (entryFrame m #[(.ref a)] 6)))
  rw [ef_1_1]
  have lt_a : a < h0.size := V_a.lt
  show Win p.tables e below _ (s₁.setTop (mkF m 0 #[.val (.ref a), .unset, .unset, .unset, .unset, .unset] []))
  refine s_aloadN (pc' := 1) X0.here hx (hb hby d1_0) rfl rfl rfl ?_
  refine s_astoreN (pc' := 2) (l' := #[.val (.ref a), .val (.ref a), .unset, .unset, .unset, .unset]) X0.here hx (hb hby d1_1) rfl rfl rfl ?_
  refine s_aloadN (pc' := 3) X0.here hx (hb hby d1_2) rfl rfl rfl ?_
  obtain ⟨cl_2, Ar_2, q_2, S_2, N_2, H_2, G_2⟩ := id V_a
  refine Win.go (fun _ k => X0.arraylength hx (by rw [e0]; exact Ar_2.1) (State.isArrayOf_alike hZ.alike Ar_2.2.1) (g := (mkF m 3 #[.val (.ref a), .val (.ref a), .unset, .unset, .unset, .unset] [(.ref a)])) rfl rfl (hb hby d1_3) _ k) ?_
  rw [len_of S_2 N_2]
  show Win p.tables e below _ (s₁.setTop (mkF m 4 #[.val (.ref a), .val (.ref a), .unset, .unset, .unset, .unset] [(.int (1 : Int32))]))
  refine s_istoreN (pc' := 5) (l' := #[.val (.ref a), .val (.ref a), .val (.int (1 : Int32)), .unset, .unset, .unset]) X0.here hx (hb hby d1_4) rfl rfl ?_
  refine s_iconst (pc' := 6) (z := (0 : Int32)) X0.here hx (hb hby d1_5) rfl rfl ?_
  refine s_istoreN (pc' := 7) (l' := #[.val (.ref a), .val (.ref a), .val (.int (1 : Int32)), .val (.int (0 : Int32)), .unset, .unset]) X0.here hx (hb hby d1_6) rfl rfl ?_
  refine s_iloadN (pc' := 8) X0.here hx (hb hby d1_7) rfl rfl ?_
  refine s_iloadN (pc' := 9) X0.here hx (hb hby d1_8) rfl rfl ?_
  refine s_icmpNo (pc' := 12) X0.here hx (hb hby d1_9) rfl (tltI (x := (0 : Int32)) (y := (1 : Int32)) (by decide)).2.1 ?_
  refine s_aloadN (pc' := 13) X0.here hx (hb hby d1_12) rfl rfl rfl ?_
  refine s_iloadN (pc' := 14) X0.here hx (hb hby d1_13) rfl rfl ?_
  obtain ⟨cl_3, Ar_3, q_3, S_3, N_3, H_3, G_3⟩ := id V_a
  have hi_3 : ¬ ((0 : Int32) < 0 ∨ cl_3.slots.size ≤ ((0 : Int32)).toNatClampNeg) := inb_of S_3 ⟨by decide, by decide⟩
  refine Win.go (fun _ k => X0.laload hx (j := (0 : Int32)) (v := (.long v0)) (by rw [e0]; exact Ar_3.1) (State.isArrayOf_alike hZ.alike Ar_3.2.1) Ar_3.2.2 hi_3 (H_3.at hi_3 rfl) (g := (mkF m 14 #[.val (.ref a), .val (.ref a), .val (.int (1 : Int32)), .val (.int (0 : Int32)), .unset, .unset] [(.int (0 : Int32)), (.ref a)])) rfl rfl (hb hby d1_14) _ k) ?_
  show Win p.tables e below _ (s₁.setTop (mkF m 15 #[.val (.ref a), .val (.ref a), .val (.int (1 : Int32)), .val (.int (0 : Int32)), .unset, .unset] [(.long v0)]))
  refine s_lstore (pc' := 17) (l' := #[.val (.ref a), .val (.ref a), .val (.int (1 : Int32)), .val (.int (0 : Int32)), .val (.long v0), .second]) X0.here hx (hb hby d1_15) rfl rfl ?_
  refine s_lload (pc' := 19) X0.here hx (hb hby d1_17) rfl rfl ?_
  refine s_lconst (pc' := 20) (z := (0 : Int64)) X0.here hx (hb hby d1_19) rfl rfl ?_
  refine s_lcmp (pc' := 21) X0.here hx (hb hby d1_20) rfl ?_
  by_cases hc21_0 : (v0).toInt = (0 : Int)
  · skip
    refine s_ifYes (pc' := 26) X0.here hx (hb hby d1_21) (teqL (x := v0) (y := (0 : Int64)) hc21_0).1 (by decide) (by decide) ?_
    refine Win.go (fun _ k => XS.iinc X0.here hx rfl (hb hby d1_26) rfl (l' := #[.val (.ref a), .val (.ref a), .val (.int (1 : Int32)), .val (.int (1 : Int32)), .val (.long v0), .second]) rfl k) ?_
    show Win p.tables e below _ (s₁.setTop (mkF m 29 #[.val (.ref a), .val (.ref a), .val (.int (1 : Int32)), .val (.int (1 : Int32)), .val (.long v0), .second] []))
    refine s_goto (pc' := 7) X0.here hx (hb hby d1_29) (by decide) (by decide) ?_
    refine s_iloadN (pc' := 8) X0.here hx (hb hby d1_7) rfl rfl ?_
    refine s_iloadN (pc' := 9) X0.here hx (hb hby d1_8) rfl rfl ?_
    refine s_icmpYes (pc' := 32) X0.here hx (hb hby d1_9) (fltI (x := (1 : Int32)) (y := (1 : Int32)) (by decide)).2.1 (by decide) (by decide) ?_
    refine s_iconst (pc' := 33) (z := (1 : Int32)) X0.here hx (hb hby d1_32) rfl rfl ?_
    refine winN X0 hx hlk e0 (t := .boolean) Bd.returns (by simp) (hb hby d1_33) (by decide) (by decide) (z' := (1 : Int32)) rfl ?_
    refine ⟨Nf, rfl, _, rfl, Or.inl ⟨rfl, ?_⟩⟩
    omega
  · skip
    refine s_ifNo (pc' := 24) X0.here hx (hb hby d1_21) rfl (feqL (x := v0) (y := (0 : Int64)) hc21_0).1 ?_
    refine s_iconst (pc' := 25) (z := (0 : Int32)) X0.here hx (hb hby d1_24) rfl rfl ?_
    refine winN X0 hx hlk e0 (t := .boolean) Bd.returns (by simp) (hb hby d1_25) (by decide) (by decide) (z' := (0 : Int32)) rfl ?_
    refine ⟨Nf, rfl, _, rfl, Or.inr ⟨rfl, ?_⟩⟩
    omega
theorem ef_1_2 (m : MethodId) (a : Addr) : entryFrame m #[(.ref a)] 6 = mkF m 0 #[.val (.ref a), .unset, .unset, .unset, .unset, .unset] [] := by first | (simp [entryFrame, mkF, argsToLocals, Value.category]; done) | rfl
def Q1_2 (Z : State) (a : Addr) (kk : ClassId) (v0 : Int64) (v1 : Int64) (h0 : Heap) (n0 : Nat) (v : Option Value) (h : Heap) (L : List Loc) : Prop := Fr n0 L ∧ h = h0 ∧ (∃ z : Int32, v = some (.int z) ∧ ((z.toInt = 1 ∧ (v0.toInt = 0 ∧ v1.toInt = 0)) ∨ (z.toInt = 0 ∧ ¬ (v0.toInt = 0 ∧ v1.toInt = 0))))
set_option maxRecDepth 65536 in
set_option maxHeartbeats 40000000 in
theorem rm1_2 (l : Launch) (Z : State) (a0 : Array Value) (hw : ∀ d ∈ tables_1, d.before a0 Z = true) (ws : List Jvm.Cond) (a : Addr) (kk : ClassId) (v0 : Int64) (v1 : Int64) (h0 : Heap) (n0 : Nat) (Zs : n0 ≤ h0.size) (V_a : Arv Z h0 a kk .long (2 : Int32) [(.long v0), (.long v1)] (.long (0 : Int64))) :
    MetFree l (⟨"com/example/faithful_deputy/faithfuldeputy/Bits", "isEmpty", "([J)Z"⟩ : MethodName) (head1 (Jvm.Cond.code (⟨"com/example/faithful_deputy/faithfuldeputy/Bits", "isEmpty", "([J)Z"⟩ : MethodName) prog_2_method_14_code 6 (some .boolean) :: ws) ({ frames := 0, cells := 0, slots := 0, locals := 0 } : Room)) (fun as' U => as' = #[(.ref a)] ∧ Z.Warmed39 U.vm ∧ U.heap = h0) (fun _ _ _ _ _ => True) (fun _ U o U' => ∃ v L, o = .returned v ∧ Q1_2 Z a kk v0 v1 h0 n0 v U'.heap L ∧ FrameEnd U o U' L ({ frames := 0, cells := 0, slots := 0, locals := 0 } : Room).cells ({ frames := 0, cells := 0, slots := 0, locals := 0 } : Room).slots) := by
  refine MetFree.of_bodySF (plainFor_of_name pn_1) hisR ?_
  intro p e s m args below meth c s₁ Bd hml0 hP hK
  obtain ⟨rfl, hZ, hh⟩ := hP
  have hx := Bd.exec
  have hby := Bd.bytes
  have hml : c.maxLocals = 6 := hml0
  have hown : s.vm.findClass "com/example/faithful_deputy/faithfuldeputy/Bits" = some m.cls := findClass_of_methodNamed Bd.named
  have hnm := (name_of_methodNamed Bd.named Bd.method).1
  have hlk : meth.locks = false := Bd.notSynchronized
  have X0 : Stand p l e ({ frames := 0, cells := 0, slots := 0, locals := 0 } : Room) s m #[(.ref a)] below meth c s₁ [] 0 0 := Stand.of_body Bd
  have e0 : s₁.heap = h0 := by rw [← hh, Bd.state]; rfl
  have Nf := Fr.nil n0
  refine (?_ : Win p.tables e below (PostQ s (Q1_2 Z a kk v0 v1 h0 n0) ({ frames := 0, cells := 0, slots := 0, locals := 0 } : Room).cells ({ frames := 0, cells := 0, slots := 0, locals := 0 } : Room).slots) (s₁.setTop (entryFrame m #[(.ref a)] 6)))
  rw [ef_1_2]
  have lt_a : a < h0.size := V_a.lt
  show Win p.tables e below _ (s₁.setTop (mkF m 0 #[.val (.ref a), .unset, .unset, .unset, .unset, .unset] []))
  refine s_aloadN (pc' := 1) X0.here hx (hb hby d1_0) rfl rfl rfl ?_
  refine s_astoreN (pc' := 2) (l' := #[.val (.ref a), .val (.ref a), .unset, .unset, .unset, .unset]) X0.here hx (hb hby d1_1) rfl rfl rfl ?_
  refine s_aloadN (pc' := 3) X0.here hx (hb hby d1_2) rfl rfl rfl ?_
  obtain ⟨cl_4, Ar_4, q_4, S_4, N_4, H_4, G_4⟩ := id V_a
  refine Win.go (fun _ k => X0.arraylength hx (by rw [e0]; exact Ar_4.1) (State.isArrayOf_alike hZ.alike Ar_4.2.1) (g := (mkF m 3 #[.val (.ref a), .val (.ref a), .unset, .unset, .unset, .unset] [(.ref a)])) rfl rfl (hb hby d1_3) _ k) ?_
  rw [len_of S_4 N_4]
  show Win p.tables e below _ (s₁.setTop (mkF m 4 #[.val (.ref a), .val (.ref a), .unset, .unset, .unset, .unset] [(.int (2 : Int32))]))
  refine s_istoreN (pc' := 5) (l' := #[.val (.ref a), .val (.ref a), .val (.int (2 : Int32)), .unset, .unset, .unset]) X0.here hx (hb hby d1_4) rfl rfl ?_
  refine s_iconst (pc' := 6) (z := (0 : Int32)) X0.here hx (hb hby d1_5) rfl rfl ?_
  refine s_istoreN (pc' := 7) (l' := #[.val (.ref a), .val (.ref a), .val (.int (2 : Int32)), .val (.int (0 : Int32)), .unset, .unset]) X0.here hx (hb hby d1_6) rfl rfl ?_
  refine s_iloadN (pc' := 8) X0.here hx (hb hby d1_7) rfl rfl ?_
  refine s_iloadN (pc' := 9) X0.here hx (hb hby d1_8) rfl rfl ?_
  refine s_icmpNo (pc' := 12) X0.here hx (hb hby d1_9) rfl (tltI (x := (0 : Int32)) (y := (2 : Int32)) (by decide)).2.1 ?_
  refine s_aloadN (pc' := 13) X0.here hx (hb hby d1_12) rfl rfl rfl ?_
  refine s_iloadN (pc' := 14) X0.here hx (hb hby d1_13) rfl rfl ?_
  obtain ⟨cl_5, Ar_5, q_5, S_5, N_5, H_5, G_5⟩ := id V_a
  have hi_5 : ¬ ((0 : Int32) < 0 ∨ cl_5.slots.size ≤ ((0 : Int32)).toNatClampNeg) := inb_of S_5 ⟨by decide, by decide⟩
  refine Win.go (fun _ k => X0.laload hx (j := (0 : Int32)) (v := (.long v0)) (by rw [e0]; exact Ar_5.1) (State.isArrayOf_alike hZ.alike Ar_5.2.1) Ar_5.2.2 hi_5 (H_5.at hi_5 rfl) (g := (mkF m 14 #[.val (.ref a), .val (.ref a), .val (.int (2 : Int32)), .val (.int (0 : Int32)), .unset, .unset] [(.int (0 : Int32)), (.ref a)])) rfl rfl (hb hby d1_14) _ k) ?_
  show Win p.tables e below _ (s₁.setTop (mkF m 15 #[.val (.ref a), .val (.ref a), .val (.int (2 : Int32)), .val (.int (0 : Int32)), .unset, .unset] [(.long v0)]))
  refine s_lstore (pc' := 17) (l' := #[.val (.ref a), .val (.ref a), .val (.int (2 : Int32)), .val (.int (0 : Int32)), .val (.long v0), .second]) X0.here hx (hb hby d1_15) rfl rfl ?_
  refine s_lload (pc' := 19) X0.here hx (hb hby d1_17) rfl rfl ?_
  refine s_lconst (pc' := 20) (z := (0 : Int64)) X0.here hx (hb hby d1_19) rfl rfl ?_
  refine s_lcmp (pc' := 21) X0.here hx (hb hby d1_20) rfl ?_
  by_cases hc21_0 : (v0).toInt = (0 : Int)
  · skip
    refine s_ifYes (pc' := 26) X0.here hx (hb hby d1_21) (teqL (x := v0) (y := (0 : Int64)) hc21_0).1 (by decide) (by decide) ?_
    refine Win.go (fun _ k => XS.iinc X0.here hx rfl (hb hby d1_26) rfl (l' := #[.val (.ref a), .val (.ref a), .val (.int (2 : Int32)), .val (.int (1 : Int32)), .val (.long v0), .second]) rfl k) ?_
    show Win p.tables e below _ (s₁.setTop (mkF m 29 #[.val (.ref a), .val (.ref a), .val (.int (2 : Int32)), .val (.int (1 : Int32)), .val (.long v0), .second] []))
    refine s_goto (pc' := 7) X0.here hx (hb hby d1_29) (by decide) (by decide) ?_
    refine s_iloadN (pc' := 8) X0.here hx (hb hby d1_7) rfl rfl ?_
    refine s_iloadN (pc' := 9) X0.here hx (hb hby d1_8) rfl rfl ?_
    refine s_icmpNo (pc' := 12) X0.here hx (hb hby d1_9) rfl (tltI (x := (1 : Int32)) (y := (2 : Int32)) (by decide)).2.1 ?_
    refine s_aloadN (pc' := 13) X0.here hx (hb hby d1_12) rfl rfl rfl ?_
    refine s_iloadN (pc' := 14) X0.here hx (hb hby d1_13) rfl rfl ?_
    obtain ⟨cl_6, Ar_6, q_6, S_6, N_6, H_6, G_6⟩ := id V_a
    have hi_6 : ¬ ((1 : Int32) < 0 ∨ cl_6.slots.size ≤ ((1 : Int32)).toNatClampNeg) := inb_of S_6 ⟨by decide, by decide⟩
    refine Win.go (fun _ k => X0.laload hx (j := (1 : Int32)) (v := (.long v1)) (by rw [e0]; exact Ar_6.1) (State.isArrayOf_alike hZ.alike Ar_6.2.1) Ar_6.2.2 hi_6 (H_6.at hi_6 rfl) (g := (mkF m 14 #[.val (.ref a), .val (.ref a), .val (.int (2 : Int32)), .val (.int (1 : Int32)), .val (.long v0), .second] [(.int (1 : Int32)), (.ref a)])) rfl rfl (hb hby d1_14) _ k) ?_
    show Win p.tables e below _ (s₁.setTop (mkF m 15 #[.val (.ref a), .val (.ref a), .val (.int (2 : Int32)), .val (.int (1 : Int32)), .val (.long v0), .second] [(.long v1)]))
    refine s_lstore (pc' := 17) (l' := #[.val (.ref a), .val (.ref a), .val (.int (2 : Int32)), .val (.int (1 : Int32)), .val (.long v1), .second]) X0.here hx (hb hby d1_15) rfl rfl ?_
    refine s_lload (pc' := 19) X0.here hx (hb hby d1_17) rfl rfl ?_
    refine s_lconst (pc' := 20) (z := (0 : Int64)) X0.here hx (hb hby d1_19) rfl rfl ?_
    refine s_lcmp (pc' := 21) X0.here hx (hb hby d1_20) rfl ?_
    by_cases hc21_1 : (v1).toInt = (0 : Int)
    · skip
      refine s_ifYes (pc' := 26) X0.here hx (hb hby d1_21) (teqL (x := v1) (y := (0 : Int64)) hc21_1).1 (by decide) (by decide) ?_
      refine Win.go (fun _ k => XS.iinc X0.here hx rfl (hb hby d1_26) rfl (l' := #[.val (.ref a), .val (.ref a), .val (.int (2 : Int32)), .val (.int (2 : Int32)), .val (.long v1), .second]) rfl k) ?_
      show Win p.tables e below _ (s₁.setTop (mkF m 29 #[.val (.ref a), .val (.ref a), .val (.int (2 : Int32)), .val (.int (2 : Int32)), .val (.long v1), .second] []))
      refine s_goto (pc' := 7) X0.here hx (hb hby d1_29) (by decide) (by decide) ?_
      refine s_iloadN (pc' := 8) X0.here hx (hb hby d1_7) rfl rfl ?_
      refine s_iloadN (pc' := 9) X0.here hx (hb hby d1_8) rfl rfl ?_
      refine s_icmpYes (pc' := 32) X0.here hx (hb hby d1_9) (fltI (x := (2 : Int32)) (y := (2 : Int32)) (by decide)).2.1 (by decide) (by decide) ?_
      refine s_iconst (pc' := 33) (z := (1 : Int32)) X0.here hx (hb hby d1_32) rfl rfl ?_
      refine winN X0 hx hlk e0 (t := .boolean) Bd.returns (by simp) (hb hby d1_33) (by decide) (by decide) (z' := (1 : Int32)) rfl ?_
      refine ⟨Nf, rfl, _, rfl, Or.inl ⟨rfl, ?_⟩⟩
      omega
    · skip
      refine s_ifNo (pc' := 24) X0.here hx (hb hby d1_21) rfl (feqL (x := v1) (y := (0 : Int64)) hc21_1).1 ?_
      refine s_iconst (pc' := 25) (z := (0 : Int32)) X0.here hx (hb hby d1_24) rfl rfl ?_
      refine winN X0 hx hlk e0 (t := .boolean) Bd.returns (by simp) (hb hby d1_25) (by decide) (by decide) (z' := (0 : Int32)) rfl ?_
      refine ⟨Nf, rfl, _, rfl, Or.inr ⟨rfl, ?_⟩⟩
      omega
  · skip
    refine s_ifNo (pc' := 24) X0.here hx (hb hby d1_21) rfl (feqL (x := v0) (y := (0 : Int64)) hc21_0).1 ?_
    refine s_iconst (pc' := 25) (z := (0 : Int32)) X0.here hx (hb hby d1_24) rfl rfl ?_
    refine winN X0 hx hlk e0 (t := .boolean) Bd.returns (by simp) (hb hby d1_25) (by decide) (by decide) (z' := (0 : Int32)) rfl ?_
    refine ⟨Nf, rfl, _, rfl, Or.inr ⟨rfl, ?_⟩⟩
    omega
theorem ef_1_3 (m : MethodId) (a : Addr) : entryFrame m #[(.ref a)] 6 = mkF m 0 #[.val (.ref a), .unset, .unset, .unset, .unset, .unset] [] := by first | (simp [entryFrame, mkF, argsToLocals, Value.category]; done) | rfl
def Q1_3 (Z : State) (a : Addr) (kk : ClassId) (v0 : Int64) (v1 : Int64) (v2 : Int64) (h0 : Heap) (n0 : Nat) (v : Option Value) (h : Heap) (L : List Loc) : Prop := Fr n0 L ∧ h = h0 ∧ (∃ z : Int32, v = some (.int z) ∧ ((z.toInt = 1 ∧ (v0.toInt = 0 ∧ v1.toInt = 0 ∧ v2.toInt = 0)) ∨ (z.toInt = 0 ∧ ¬ (v0.toInt = 0 ∧ v1.toInt = 0 ∧ v2.toInt = 0))))
set_option maxRecDepth 65536 in
set_option maxHeartbeats 40000000 in
theorem rm1_3 (l : Launch) (Z : State) (a0 : Array Value) (hw : ∀ d ∈ tables_1, d.before a0 Z = true) (ws : List Jvm.Cond) (a : Addr) (kk : ClassId) (v0 : Int64) (v1 : Int64) (v2 : Int64) (h0 : Heap) (n0 : Nat) (Zs : n0 ≤ h0.size) (V_a : Arv Z h0 a kk .long (3 : Int32) [(.long v0), (.long v1), (.long v2)] (.long (0 : Int64))) :
    MetFree l (⟨"com/example/faithful_deputy/faithfuldeputy/Bits", "isEmpty", "([J)Z"⟩ : MethodName) (head1 (Jvm.Cond.code (⟨"com/example/faithful_deputy/faithfuldeputy/Bits", "isEmpty", "([J)Z"⟩ : MethodName) prog_2_method_14_code 6 (some .boolean) :: ws) ({ frames := 0, cells := 0, slots := 0, locals := 0 } : Room)) (fun as' U => as' = #[(.ref a)] ∧ Z.Warmed39 U.vm ∧ U.heap = h0) (fun _ _ _ _ _ => True) (fun _ U o U' => ∃ v L, o = .returned v ∧ Q1_3 Z a kk v0 v1 v2 h0 n0 v U'.heap L ∧ FrameEnd U o U' L ({ frames := 0, cells := 0, slots := 0, locals := 0 } : Room).cells ({ frames := 0, cells := 0, slots := 0, locals := 0 } : Room).slots) := by
  refine MetFree.of_bodySF (plainFor_of_name pn_1) hisR ?_
  intro p e s m args below meth c s₁ Bd hml0 hP hK
  obtain ⟨rfl, hZ, hh⟩ := hP
  have hx := Bd.exec
  have hby := Bd.bytes
  have hml : c.maxLocals = 6 := hml0
  have hown : s.vm.findClass "com/example/faithful_deputy/faithfuldeputy/Bits" = some m.cls := findClass_of_methodNamed Bd.named
  have hnm := (name_of_methodNamed Bd.named Bd.method).1
  have hlk : meth.locks = false := Bd.notSynchronized
  have X0 : Stand p l e ({ frames := 0, cells := 0, slots := 0, locals := 0 } : Room) s m #[(.ref a)] below meth c s₁ [] 0 0 := Stand.of_body Bd
  have e0 : s₁.heap = h0 := by rw [← hh, Bd.state]; rfl
  have Nf := Fr.nil n0
  refine (?_ : Win p.tables e below (PostQ s (Q1_3 Z a kk v0 v1 v2 h0 n0) ({ frames := 0, cells := 0, slots := 0, locals := 0 } : Room).cells ({ frames := 0, cells := 0, slots := 0, locals := 0 } : Room).slots) (s₁.setTop (entryFrame m #[(.ref a)] 6)))
  rw [ef_1_3]
  have lt_a : a < h0.size := V_a.lt
  show Win p.tables e below _ (s₁.setTop (mkF m 0 #[.val (.ref a), .unset, .unset, .unset, .unset, .unset] []))
  refine s_aloadN (pc' := 1) X0.here hx (hb hby d1_0) rfl rfl rfl ?_
  refine s_astoreN (pc' := 2) (l' := #[.val (.ref a), .val (.ref a), .unset, .unset, .unset, .unset]) X0.here hx (hb hby d1_1) rfl rfl rfl ?_
  refine s_aloadN (pc' := 3) X0.here hx (hb hby d1_2) rfl rfl rfl ?_
  obtain ⟨cl_7, Ar_7, q_7, S_7, N_7, H_7, G_7⟩ := id V_a
  refine Win.go (fun _ k => X0.arraylength hx (by rw [e0]; exact Ar_7.1) (State.isArrayOf_alike hZ.alike Ar_7.2.1) (g := (mkF m 3 #[.val (.ref a), .val (.ref a), .unset, .unset, .unset, .unset] [(.ref a)])) rfl rfl (hb hby d1_3) _ k) ?_
  rw [len_of S_7 N_7]
  show Win p.tables e below _ (s₁.setTop (mkF m 4 #[.val (.ref a), .val (.ref a), .unset, .unset, .unset, .unset] [(.int (3 : Int32))]))
  refine s_istoreN (pc' := 5) (l' := #[.val (.ref a), .val (.ref a), .val (.int (3 : Int32)), .unset, .unset, .unset]) X0.here hx (hb hby d1_4) rfl rfl ?_
  refine s_iconst (pc' := 6) (z := (0 : Int32)) X0.here hx (hb hby d1_5) rfl rfl ?_
  refine s_istoreN (pc' := 7) (l' := #[.val (.ref a), .val (.ref a), .val (.int (3 : Int32)), .val (.int (0 : Int32)), .unset, .unset]) X0.here hx (hb hby d1_6) rfl rfl ?_
  refine s_iloadN (pc' := 8) X0.here hx (hb hby d1_7) rfl rfl ?_
  refine s_iloadN (pc' := 9) X0.here hx (hb hby d1_8) rfl rfl ?_
  refine s_icmpNo (pc' := 12) X0.here hx (hb hby d1_9) rfl (tltI (x := (0 : Int32)) (y := (3 : Int32)) (by decide)).2.1 ?_
  refine s_aloadN (pc' := 13) X0.here hx (hb hby d1_12) rfl rfl rfl ?_
  refine s_iloadN (pc' := 14) X0.here hx (hb hby d1_13) rfl rfl ?_
  obtain ⟨cl_8, Ar_8, q_8, S_8, N_8, H_8, G_8⟩ := id V_a
  have hi_8 : ¬ ((0 : Int32) < 0 ∨ cl_8.slots.size ≤ ((0 : Int32)).toNatClampNeg) := inb_of S_8 ⟨by decide, by decide⟩
  refine Win.go (fun _ k => X0.laload hx (j := (0 : Int32)) (v := (.long v0)) (by rw [e0]; exact Ar_8.1) (State.isArrayOf_alike hZ.alike Ar_8.2.1) Ar_8.2.2 hi_8 (H_8.at hi_8 rfl) (g := (mkF m 14 #[.val (.ref a), .val (.ref a), .val (.int (3 : Int32)), .val (.int (0 : Int32)), .unset, .unset] [(.int (0 : Int32)), (.ref a)])) rfl rfl (hb hby d1_14) _ k) ?_
  show Win p.tables e below _ (s₁.setTop (mkF m 15 #[.val (.ref a), .val (.ref a), .val (.int (3 : Int32)), .val (.int (0 : Int32)), .unset, .unset] [(.long v0)]))
  refine s_lstore (pc' := 17) (l' := #[.val (.ref a), .val (.ref a), .val (.int (3 : Int32)), .val (.int (0 : Int32)), .val (.long v0), .second]) X0.here hx (hb hby d1_15) rfl rfl ?_
  refine s_lload (pc' := 19) X0.here hx (hb hby d1_17) rfl rfl ?_
  refine s_lconst (pc' := 20) (z := (0 : Int64)) X0.here hx (hb hby d1_19) rfl rfl ?_
  refine s_lcmp (pc' := 21) X0.here hx (hb hby d1_20) rfl ?_
  by_cases hc21_0 : (v0).toInt = (0 : Int)
  · skip
    refine s_ifYes (pc' := 26) X0.here hx (hb hby d1_21) (teqL (x := v0) (y := (0 : Int64)) hc21_0).1 (by decide) (by decide) ?_
    refine Win.go (fun _ k => XS.iinc X0.here hx rfl (hb hby d1_26) rfl (l' := #[.val (.ref a), .val (.ref a), .val (.int (3 : Int32)), .val (.int (1 : Int32)), .val (.long v0), .second]) rfl k) ?_
    show Win p.tables e below _ (s₁.setTop (mkF m 29 #[.val (.ref a), .val (.ref a), .val (.int (3 : Int32)), .val (.int (1 : Int32)), .val (.long v0), .second] []))
    refine s_goto (pc' := 7) X0.here hx (hb hby d1_29) (by decide) (by decide) ?_
    refine s_iloadN (pc' := 8) X0.here hx (hb hby d1_7) rfl rfl ?_
    refine s_iloadN (pc' := 9) X0.here hx (hb hby d1_8) rfl rfl ?_
    refine s_icmpNo (pc' := 12) X0.here hx (hb hby d1_9) rfl (tltI (x := (1 : Int32)) (y := (3 : Int32)) (by decide)).2.1 ?_
    refine s_aloadN (pc' := 13) X0.here hx (hb hby d1_12) rfl rfl rfl ?_
    refine s_iloadN (pc' := 14) X0.here hx (hb hby d1_13) rfl rfl ?_
    obtain ⟨cl_9, Ar_9, q_9, S_9, N_9, H_9, G_9⟩ := id V_a
    have hi_9 : ¬ ((1 : Int32) < 0 ∨ cl_9.slots.size ≤ ((1 : Int32)).toNatClampNeg) := inb_of S_9 ⟨by decide, by decide⟩
    refine Win.go (fun _ k => X0.laload hx (j := (1 : Int32)) (v := (.long v1)) (by rw [e0]; exact Ar_9.1) (State.isArrayOf_alike hZ.alike Ar_9.2.1) Ar_9.2.2 hi_9 (H_9.at hi_9 rfl) (g := (mkF m 14 #[.val (.ref a), .val (.ref a), .val (.int (3 : Int32)), .val (.int (1 : Int32)), .val (.long v0), .second] [(.int (1 : Int32)), (.ref a)])) rfl rfl (hb hby d1_14) _ k) ?_
    show Win p.tables e below _ (s₁.setTop (mkF m 15 #[.val (.ref a), .val (.ref a), .val (.int (3 : Int32)), .val (.int (1 : Int32)), .val (.long v0), .second] [(.long v1)]))
    refine s_lstore (pc' := 17) (l' := #[.val (.ref a), .val (.ref a), .val (.int (3 : Int32)), .val (.int (1 : Int32)), .val (.long v1), .second]) X0.here hx (hb hby d1_15) rfl rfl ?_
    refine s_lload (pc' := 19) X0.here hx (hb hby d1_17) rfl rfl ?_
    refine s_lconst (pc' := 20) (z := (0 : Int64)) X0.here hx (hb hby d1_19) rfl rfl ?_
    refine s_lcmp (pc' := 21) X0.here hx (hb hby d1_20) rfl ?_
    by_cases hc21_1 : (v1).toInt = (0 : Int)
    · skip
      refine s_ifYes (pc' := 26) X0.here hx (hb hby d1_21) (teqL (x := v1) (y := (0 : Int64)) hc21_1).1 (by decide) (by decide) ?_
      refine Win.go (fun _ k => XS.iinc X0.here hx rfl (hb hby d1_26) rfl (l' := #[.val (.ref a), .val (.ref a), .val (.int (3 : Int32)), .val (.int (2 : Int32)), .val (.long v1), .second]) rfl k) ?_
      show Win p.tables e below _ (s₁.setTop (mkF m 29 #[.val (.ref a), .val (.ref a), .val (.int (3 : Int32)), .val (.int (2 : Int32)), .val (.long v1), .second] []))
      refine s_goto (pc' := 7) X0.here hx (hb hby d1_29) (by decide) (by decide) ?_
      refine s_iloadN (pc' := 8) X0.here hx (hb hby d1_7) rfl rfl ?_
      refine s_iloadN (pc' := 9) X0.here hx (hb hby d1_8) rfl rfl ?_
      refine s_icmpNo (pc' := 12) X0.here hx (hb hby d1_9) rfl (tltI (x := (2 : Int32)) (y := (3 : Int32)) (by decide)).2.1 ?_
      refine s_aloadN (pc' := 13) X0.here hx (hb hby d1_12) rfl rfl rfl ?_
      refine s_iloadN (pc' := 14) X0.here hx (hb hby d1_13) rfl rfl ?_
      obtain ⟨cl_10, Ar_10, q_10, S_10, N_10, H_10, G_10⟩ := id V_a
      have hi_10 : ¬ ((2 : Int32) < 0 ∨ cl_10.slots.size ≤ ((2 : Int32)).toNatClampNeg) := inb_of S_10 ⟨by decide, by decide⟩
      refine Win.go (fun _ k => X0.laload hx (j := (2 : Int32)) (v := (.long v2)) (by rw [e0]; exact Ar_10.1) (State.isArrayOf_alike hZ.alike Ar_10.2.1) Ar_10.2.2 hi_10 (H_10.at hi_10 rfl) (g := (mkF m 14 #[.val (.ref a), .val (.ref a), .val (.int (3 : Int32)), .val (.int (2 : Int32)), .val (.long v1), .second] [(.int (2 : Int32)), (.ref a)])) rfl rfl (hb hby d1_14) _ k) ?_
      show Win p.tables e below _ (s₁.setTop (mkF m 15 #[.val (.ref a), .val (.ref a), .val (.int (3 : Int32)), .val (.int (2 : Int32)), .val (.long v1), .second] [(.long v2)]))
      refine s_lstore (pc' := 17) (l' := #[.val (.ref a), .val (.ref a), .val (.int (3 : Int32)), .val (.int (2 : Int32)), .val (.long v2), .second]) X0.here hx (hb hby d1_15) rfl rfl ?_
      refine s_lload (pc' := 19) X0.here hx (hb hby d1_17) rfl rfl ?_
      refine s_lconst (pc' := 20) (z := (0 : Int64)) X0.here hx (hb hby d1_19) rfl rfl ?_
      refine s_lcmp (pc' := 21) X0.here hx (hb hby d1_20) rfl ?_
      by_cases hc21_2 : (v2).toInt = (0 : Int)
      · skip
        refine s_ifYes (pc' := 26) X0.here hx (hb hby d1_21) (teqL (x := v2) (y := (0 : Int64)) hc21_2).1 (by decide) (by decide) ?_
        refine Win.go (fun _ k => XS.iinc X0.here hx rfl (hb hby d1_26) rfl (l' := #[.val (.ref a), .val (.ref a), .val (.int (3 : Int32)), .val (.int (3 : Int32)), .val (.long v2), .second]) rfl k) ?_
        show Win p.tables e below _ (s₁.setTop (mkF m 29 #[.val (.ref a), .val (.ref a), .val (.int (3 : Int32)), .val (.int (3 : Int32)), .val (.long v2), .second] []))
        refine s_goto (pc' := 7) X0.here hx (hb hby d1_29) (by decide) (by decide) ?_
        refine s_iloadN (pc' := 8) X0.here hx (hb hby d1_7) rfl rfl ?_
        refine s_iloadN (pc' := 9) X0.here hx (hb hby d1_8) rfl rfl ?_
        refine s_icmpYes (pc' := 32) X0.here hx (hb hby d1_9) (fltI (x := (3 : Int32)) (y := (3 : Int32)) (by decide)).2.1 (by decide) (by decide) ?_
        refine s_iconst (pc' := 33) (z := (1 : Int32)) X0.here hx (hb hby d1_32) rfl rfl ?_
        refine winN X0 hx hlk e0 (t := .boolean) Bd.returns (by simp) (hb hby d1_33) (by decide) (by decide) (z' := (1 : Int32)) rfl ?_
        refine ⟨Nf, rfl, _, rfl, Or.inl ⟨rfl, ?_⟩⟩
        omega
      · skip
        refine s_ifNo (pc' := 24) X0.here hx (hb hby d1_21) rfl (feqL (x := v2) (y := (0 : Int64)) hc21_2).1 ?_
        refine s_iconst (pc' := 25) (z := (0 : Int32)) X0.here hx (hb hby d1_24) rfl rfl ?_
        refine winN X0 hx hlk e0 (t := .boolean) Bd.returns (by simp) (hb hby d1_25) (by decide) (by decide) (z' := (0 : Int32)) rfl ?_
        refine ⟨Nf, rfl, _, rfl, Or.inr ⟨rfl, ?_⟩⟩
        omega
    · skip
      refine s_ifNo (pc' := 24) X0.here hx (hb hby d1_21) rfl (feqL (x := v1) (y := (0 : Int64)) hc21_1).1 ?_
      refine s_iconst (pc' := 25) (z := (0 : Int32)) X0.here hx (hb hby d1_24) rfl rfl ?_
      refine winN X0 hx hlk e0 (t := .boolean) Bd.returns (by simp) (hb hby d1_25) (by decide) (by decide) (z' := (0 : Int32)) rfl ?_
      refine ⟨Nf, rfl, _, rfl, Or.inr ⟨rfl, ?_⟩⟩
      omega
  · skip
    refine s_ifNo (pc' := 24) X0.here hx (hb hby d1_21) rfl (feqL (x := v0) (y := (0 : Int64)) hc21_0).1 ?_
    refine s_iconst (pc' := 25) (z := (0 : Int32)) X0.here hx (hb hby d1_24) rfl rfl ?_
    refine winN X0 hx hlk e0 (t := .boolean) Bd.returns (by simp) (hb hby d1_25) (by decide) (by decide) (z' := (0 : Int32)) rfl ?_
    refine ⟨Nf, rfl, _, rfl, Or.inr ⟨rfl, ?_⟩⟩
    omega
theorem pn_0 : plainName "com/example/faithful_deputy/faithfuldeputy/BitsIsEmptyPinLaw" = true := by first | (simp [plainName, overriddenIn]; done) | decide +kernel
theorem pd_0 : parseMethodDescriptor "([J)Z" = some ⟨[(.array .long)], some .boolean⟩ := by decide +kernel
theorem ef_0 (m : MethodId) (q0 : Int64) (q1 : Int64) (q2 : Int64) (p3 : Int32) : entryFrame m #[(.long q0), (.long q1), (.long q2), (.int p3)] maxLocals = mkF m 0 #[.val (.long q0), .second, .val (.long q1), .second, .val (.long q2), .second, .val (.int p3), .unset, .unset, .unset, .unset, .unset, .unset, .unset, .unset, .unset, .unset] [] := by first | (simp [entryFrame, mkF, argsToLocals, Value.category, maxLocals]; done) | rfl
def Q0 (Z : State) (q0 : Int64) (q1 : Int64) (q2 : Int64) (p3 : Int32) (h0 : Heap) (n0 : Nat) (v : Option Value) (h : Heap) (L : List Loc) : Prop := Fr n0 L ∧ v = some (.int 1)
set_option maxRecDepth 65536 in
set_option maxHeartbeats 40000000 in
theorem rm0 (l : Launch) (Z : State) (a0 : Array Value) (hw : ∀ d ∈ tables_1, d.before a0 Z = true) (ws : List Jvm.Cond) (q0 : Int64) (q1 : Int64) (q2 : Int64) (p3 : Int32) (h0 : Heap) (n0 : Nat) (Zs : n0 ≤ h0.size) :
    MetFree l x (head1 (Jvm.Cond.code x code maxLocals ret :: ws) room_1) (fun as' U => as' = #[(.long q0), (.long q1), (.long q2), (.int p3)] ∧ Z.Warmed39 U.vm ∧ U.heap = h0) (fun _ _ _ _ _ => True) (fun _ U o U' => ∃ v L, o = .returned v ∧ Q0 Z q0 q1 q2 p3 h0 n0 v U'.heap L ∧ FrameEnd U o U' L room_1.cells room_1.slots) := by
  refine MetFree.of_bodySF (plainFor_of_name pn_0) hisR ?_
  intro p e s m args below meth c s₁ Bd hml0 hP hK
  obtain ⟨rfl, hZ, hh⟩ := hP
  have hx := Bd.exec
  have hby := Bd.bytes
  have hml : c.maxLocals = 17 := hml0
  have hown : s.vm.findClass "com/example/faithful_deputy/faithfuldeputy/BitsIsEmptyPinLaw" = some m.cls := findClass_of_methodNamed Bd.named
  have hnm := (name_of_methodNamed Bd.named Bd.method).1
  have hlk : meth.locks = false := Bd.notSynchronized
  have X0 : Stand p l e room_1 s m #[(.long q0), (.long q1), (.long q2), (.int p3)] below meth c s₁ [] 0 0 := Stand.of_body Bd
  have e0 : s₁.heap = h0 := by rw [← hh, Bd.state]; rfl
  have Nf := Fr.nil n0
  refine (?_ : Win p.tables e below (PostQ s (Q0 Z q0 q1 q2 p3 h0 n0) room_1.cells room_1.slots) (s₁.setTop (entryFrame m #[(.long q0), (.long q1), (.long q2), (.int p3)] maxLocals)))
  rw [ef_0]
  show Win p.tables e below _ (s₁.setTop (mkF m 0 #[.val (.long q0), .second, .val (.long q1), .second, .val (.long q2), .second, .val (.int p3), .unset, .unset, .unset, .unset, .unset, .unset, .unset, .unset, .unset, .unset] []))
  refine s_iload (pc' := 2) X0.here hx (hb hby at_0) rfl rfl ?_
  refine s_iconst (pc' := 3) (z := (3 : Int32)) X0.here hx (hb hby at_2) rfl rfl ?_
  refine s_iand (pc' := 4) X0.here hx (hb hby at_3) rfl ?_
  refine s_istore (pc' := 6) (l' := #[.val (.long q0), .second, .val (.long q1), .second, .val (.long q2), .second, .val (.int p3), .val (.int (p3 &&& (3 : Int32))), .unset, .unset, .unset, .unset, .unset, .unset, .unset, .unset, .unset]) X0.here hx (hb hby at_4) rfl rfl ?_
  generalize hln : (p3 &&& (3 : Int32)) = ln
  show Win p.tables e below _ (s₁.setTop (mkF m 6 #[.val (.long q0), .second, .val (.long q1), .second, .val (.long q2), .second, .val (.int p3), .val (.int ln), .unset, .unset, .unset, .unset, .unset, .unset, .unset, .unset, .unset] []))
  have bln : 0 ≤ ln.toInt ∧ ln.toInt ≤ 3 := hln ▸ c_and p3 3 (by decide)
  clear hln
  have J20 : ∀ w0 : Int64, (True) → Win p.tables e below (PostQ s (Q0 Z q0 q1 q2 p3 h0 n0) room_1.cells room_1.slots) (s₁.setTop (mkF m 20 #[.val (.long q0), .second, .val (.long q1), .second, .val (.long q2), .second, .val (.int p3), .val (.int ln), .unset, .unset, .unset, .unset, .unset, .unset, .unset, .unset, .unset] [(.long w0)])) := by
    intro w0 hJ20
    refine s_lstore (pc' := 22) (l' := #[.val (.long q0), .second, .val (.long q1), .second, .val (.long q2), .second, .val (.int p3), .val (.int ln), .val (.long w0), .second, .unset, .unset, .unset, .unset, .unset, .unset, .unset]) X0.here hx (hb hby at_20) rfl rfl ?_
    have J36 : ∀ w1 : Int64, (True) → Win p.tables e below (PostQ s (Q0 Z q0 q1 q2 p3 h0 n0) room_1.cells room_1.slots) (s₁.setTop (mkF m 36 #[.val (.long q0), .second, .val (.long q1), .second, .val (.long q2), .second, .val (.int p3), .val (.int ln), .val (.long w0), .second, .unset, .unset, .unset, .unset, .unset, .unset, .unset] [(.long w1)])) := by
      intro w1 hJ36
      refine s_lstore (pc' := 38) (l' := #[.val (.long q0), .second, .val (.long q1), .second, .val (.long q2), .second, .val (.int p3), .val (.int ln), .val (.long w0), .second, .val (.long w1), .second, .unset, .unset, .unset, .unset, .unset]) X0.here hx (hb hby at_36) rfl rfl ?_
      have J53 : ∀ w2 : Int64, (True) → Win p.tables e below (PostQ s (Q0 Z q0 q1 q2 p3 h0 n0) room_1.cells room_1.slots) (s₁.setTop (mkF m 53 #[.val (.long q0), .second, .val (.long q1), .second, .val (.long q2), .second, .val (.int p3), .val (.int ln), .val (.long w0), .second, .val (.long w1), .second, .unset, .unset, .unset, .unset, .unset] [(.long w2)])) := by
        intro w2 hJ53
        refine s_lstore (pc' := 55) (l' := #[.val (.long q0), .second, .val (.long q1), .second, .val (.long q2), .second, .val (.int p3), .val (.int ln), .val (.long w0), .second, .val (.long w1), .second, .val (.long w2), .second, .unset, .unset, .unset]) X0.here hx (hb hby at_53) rfl rfl ?_
        rcases (own_four bln.1 bln.2 : ln = (0 : Int32) ∨ ln = (1 : Int32) ∨ ln = (2 : Int32) ∨ ln = (3 : Int32)) with rfl | rfl | rfl | rfl
        · skip
          show Win p.tables e below _ (s₁.setTop (mkF m 55 #[.val (.long q0), .second, .val (.long q1), .second, .val (.long q2), .second, .val (.int p3), .val (.int (0 : Int32)), .val (.long w0), .second, .val (.long w1), .second, .val (.long w2), .second, .unset, .unset, .unset] []))
          refine s_iload (pc' := 57) X0.here hx (hb hby at_55) rfl rfl ?_
          obtain ⟨T_11, h_11, k_11, X_11, e_11, Ex_11, A_11, EA_11, st_11⟩ := newPE X0 hx hZ (hw _ (List.mem_of_getElem? (i := 0) rfl)) e0 (g := (mkF m 57 #[.val (.long q0), .second, .val (.long q1), .second, .val (.long q2), .second, .val (.int p3), .val (.int (0 : Int32)), .val (.long w0), .second, .val (.long w1), .second, .val (.long w2), .second, .unset, .unset, .unset] [(.int (0 : Int32))])) rfl (hb hby at_57) rfl (by decide) (cap := 0) (by decide) (by decide) (by decide) (by decide) (ad := "[J") (by decide)
          obtain ⟨b_11, g_11⟩ : ∃ z, z = h0.size := ⟨_, rfl⟩
          have g_b_11 : n0 ≤ b_11 := Nat.le_trans Zs (Nat.le_of_eq g_11.symm)
          rw [← g_11] at A_11 EA_11 st_11
          replace Zs := Nat.le_trans Zs Ex_11.1
          have V_b_11 : Arv Z h_11 b_11 k_11 .long (0 : Int32) [] (.long (0 : Int64)) := (Arv.new A_11 (by decide)).pad (pad_rep [] (.long (0 : Int64)) 0)
          have lt_b_11 := V_b_11.lt
          have E_b_11 := EA_11
          refine Win.go st_11 ?_
          show Win p.tables e below _ (T_11.setTop (mkF m 59 #[.val (.long q0), .second, .val (.long q1), .second, .val (.long q2), .second, .val (.int p3), .val (.int (0 : Int32)), .val (.long w0), .second, .val (.long w1), .second, .val (.long w2), .second, .unset, .unset, .unset] [(.ref b_11)]))
          refine s_astore (pc' := 61) (l' := #[.val (.long q0), .second, .val (.long q1), .second, .val (.long q2), .second, .val (.int p3), .val (.int (0 : Int32)), .val (.long w0), .second, .val (.long w1), .second, .val (.long w2), .second, .val (.ref b_11), .unset, .unset]) X_11.here hx (hb hby at_59) rfl rfl rfl ?_
          refine s_iload (pc' := 63) X_11.here hx (hb hby at_61) rfl rfl ?_
          refine s_ifYes (pc' := 72) X_11.here hx (hb hby at_63) ((if0 _ _).trans (fltI (x := (0 : Int32)) (y := (0 : Int32)) (by decide)).2.2.2) (by decide) (by decide) ?_
          refine s_iload (pc' := 74) X_11.here hx (hb hby at_72) rfl rfl ?_
          refine s_iconst (pc' := 75) (z := (1 : Int32)) X_11.here hx (hb hby at_74) rfl rfl ?_
          refine s_icmpYes (pc' := 84) X_11.here hx (hb hby at_75) (fltI (x := (1 : Int32)) (y := (0 : Int32)) (by decide)).2.2.2 (by decide) (by decide) ?_
          refine s_iload (pc' := 86) X_11.here hx (hb hby at_84) rfl rfl ?_
          refine s_iconst (pc' := 87) (z := (2 : Int32)) X_11.here hx (hb hby at_86) rfl rfl ?_
          refine s_icmpYes (pc' := 96) X_11.here hx (hb hby at_87) (fltI (x := (2 : Int32)) (y := (0 : Int32)) (by decide)).2.2.2 (by decide) (by decide) ?_
          have J140 : ∀ ze : Int32, ((ze.toInt = 1 ∧ ((0 : Int) = 0)) ∨ (ze.toInt = 0 ∧ ¬ ((0 : Int) = 0))) → Win p.tables e below (PostQ s (Q0 Z q0 q1 q2 p3 h0 n0) room_1.cells room_1.slots) (T_11.setTop (mkF m 140 #[.val (.long q0), .second, .val (.long q1), .second, .val (.long q2), .second, .val (.int p3), .val (.int (0 : Int32)), .val (.long w0), .second, .val (.long w1), .second, .val (.long w2), .second, .val (.ref b_11), .unset, .unset] [(.int ze)])) := by
            intro ze hJ140
            refine s_istore (pc' := 142) (l' := #[.val (.long q0), .second, .val (.long q1), .second, .val (.long q2), .second, .val (.int p3), .val (.int (0 : Int32)), .val (.long w0), .second, .val (.long w1), .second, .val (.long w2), .second, .val (.ref b_11), .val (.int ze), .unset]) X_11.here hx (hb hby at_140) rfl rfl ?_
            refine s_aload (pc' := 144) X_11.here hx (hb hby at_142) rfl rfl rfl ?_
            obtain ⟨_, _, ⟨T_12, L_12, k_12, n_12⟩, -, X_12, ⟨Lc_12, hQ_12, l_12, y_12, z_12⟩, st_12⟩ := Jvm.LawKit.callS X_11 hx (y := (⟨"com/example/faithful_deputy/faithfuldeputy/Bits", "isEmpty", "([J)Z"⟩ : MethodName)) hown (mvT hZ (hw _ (List.mem_of_getElem? (i := 1) rfl))) (mvT hZ (hw _ (List.mem_of_getElem? (i := 2) rfl))) (mvT hZ (hw _ (List.mem_of_getElem? (i := 3) rfl))) (mvT hZ (hw _ (List.mem_of_getElem? (i := 4) rfl))) (by decide) (backOf (W := 0) (rm1_0 l Z a0 hw [] b_11 k_11 h_11 n0 Zs V_b_11) hZ (hw _ (List.mem_of_getElem? (i := 4) rfl)) (hw _ (List.mem_of_getElem? (i := 3) rfl)) (by decide) (by decide)) (g := (mkF m 144 #[.val (.long q0), .second, .val (.long q1), .second, .val (.long q2), .second, .val (.int p3), .val (.int (0 : Int32)), .val (.long w0), .second, .val (.long w1), .second, .val (.long w2), .second, .val (.ref b_11), .val (.int ze), .unset] [(.ref b_11)])) rfl (by rw [hml]; rfl) (argsL := [(.ref b_11)]) (rest := []) (lenOf pd_0 rfl) rfl (by show 2 * 0 + _ ≤ _; exact Nat.le_of_eq rfl) (hb hby at_144) (fun _ _ => ⟨rfl, e_11, (by decide : 1 + 0 ≤ _), (by decide : 0 + 0 ≤ _)⟩)
            dsimp only [Pt.U, Pt.locs, Pt.cells, Pt.slots] at X_12 l_12 y_12 z_12 st_12 hQ_12
            subst l_12 y_12 z_12
            obtain ⟨Nq_12, e_12, r1, rfl, hr1⟩ := hQ_12
            replace Nf := Fr.app Nf Nq_12
            refine Win.go st_12 ?_
            show Win p.tables e below _ (T_12.setTop (mkF m 147 #[.val (.long q0), .second, .val (.long q1), .second, .val (.long q2), .second, .val (.int p3), .val (.int (0 : Int32)), .val (.long w0), .second, .val (.long w1), .second, .val (.long w2), .second, .val (.ref b_11), .val (.int ze), .unset] [(.int r1)]))
            refine s_istore (pc' := 149) (l' := #[.val (.long q0), .second, .val (.long q1), .second, .val (.long q2), .second, .val (.int p3), .val (.int (0 : Int32)), .val (.long w0), .second, .val (.long w1), .second, .val (.long w2), .second, .val (.ref b_11), .val (.int ze), .val (.int r1)]) X_12.here hx (hb hby at_147) rfl rfl ?_
            refine s_iload (pc' := 151) X_12.here hx (hb hby at_149) rfl rfl ?_
            refine s_iload (pc' := 153) X_12.here hx (hb hby at_151) rfl rfl ?_
            by_cases hc153 : (r1).toInt = (ze).toInt
            · skip
              refine s_icmpYes (pc' := 158) X_12.here hx (hb hby at_153) (teqI (x := r1) (y := ze) hc153).1 (by decide) (by decide) ?_
              refine s_aload (pc' := 160) X_12.here hx (hb hby at_158) rfl rfl rfl ?_
              obtain ⟨cl_13, Ar_13, q_13, S_13, N_13, H_13, G_13⟩ := id V_b_11
              refine Win.go (fun _ k => X_12.arraylength hx (by rw [e_12]; exact Ar_13.1) (State.isArrayOf_alike hZ.alike Ar_13.2.1) (g := (mkF m 160 #[.val (.long q0), .second, .val (.long q1), .second, .val (.long q2), .second, .val (.int p3), .val (.int (0 : Int32)), .val (.long w0), .second, .val (.long w1), .second, .val (.long w2), .second, .val (.ref b_11), .val (.int ze), .val (.int r1)] [(.ref b_11)])) rfl rfl (hb hby at_160) _ k) ?_
              rw [len_of S_13 N_13]
              show Win p.tables e below _ (T_12.setTop (mkF m 161 #[.val (.long q0), .second, .val (.long q1), .second, .val (.long q2), .second, .val (.int p3), .val (.int (0 : Int32)), .val (.long w0), .second, .val (.long w1), .second, .val (.long w2), .second, .val (.ref b_11), .val (.int ze), .val (.int r1)] [(.int (0 : Int32))]))
              refine s_iload (pc' := 163) X_12.here hx (hb hby at_161) rfl rfl ?_
              refine s_icmpYes (pc' := 168) X_12.here hx (hb hby at_163) (teqI (x := (0 : Int32)) (y := (0 : Int32)) (by decide)).1 (by decide) (by decide) ?_
              refine s_iload (pc' := 170) X_12.here hx (hb hby at_168) rfl rfl ?_
              refine s_ifYes (pc' := 185) X_12.here hx (hb hby at_170) ((if0 _ _).trans (fltI (x := (0 : Int32)) (y := (0 : Int32)) (by decide)).2.2.2) (by decide) (by decide) ?_
              refine s_iload (pc' := 187) X_12.here hx (hb hby at_185) rfl rfl ?_
              refine s_iconst (pc' := 188) (z := (1 : Int32)) X_12.here hx (hb hby at_187) rfl rfl ?_
              refine s_icmpYes (pc' := 203) X_12.here hx (hb hby at_188) (fltI (x := (1 : Int32)) (y := (0 : Int32)) (by decide)).2.2.2 (by decide) (by decide) ?_
              refine s_iload (pc' := 205) X_12.here hx (hb hby at_203) rfl rfl ?_
              refine s_iconst (pc' := 206) (z := (2 : Int32)) X_12.here hx (hb hby at_205) rfl rfl ?_
              refine s_icmpYes (pc' := 221) X_12.here hx (hb hby at_206) (fltI (x := (2 : Int32)) (y := (0 : Int32)) (by decide)).2.2.2 (by decide) (by decide) ?_
              refine s_iconst (pc' := 222) (z := (1 : Int32)) X_12.here hx (hb hby at_221) rfl rfl ?_
              refine winN X_12 hx hlk e_12 (t := .boolean) Bd.returns (by simp) (hb hby at_222) (by decide) (by decide) (z' := 1) rfl ⟨Nf, rfl⟩
            · skip
              refine s_icmpNo (pc' := 156) X_12.here hx (hb hby at_153) rfl (feqI (x := r1) (y := ze) hc153).1 ?_
              refine s_iconst (pc' := 157) (z := (0 : Int32)) X_12.here hx (hb hby at_156) rfl rfl ?_
              exfalso
              omega
          refine s_iload (pc' := 98) X_11.here hx (hb hby at_96) rfl rfl ?_
          refine s_iconst (pc' := 99) (z := (1 : Int32)) X_11.here hx (hb hby at_98) rfl rfl ?_
          refine s_icmpYes (pc' := 109) X_11.here hx (hb hby at_99) (tltI (x := (0 : Int32)) (y := (1 : Int32)) (by decide)).1 (by decide) (by decide) ?_
          refine s_iload (pc' := 111) X_11.here hx (hb hby at_109) rfl rfl ?_
          refine s_iconst (pc' := 112) (z := (2 : Int32)) X_11.here hx (hb hby at_111) rfl rfl ?_
          refine s_icmpYes (pc' := 122) X_11.here hx (hb hby at_112) (tltI (x := (0 : Int32)) (y := (2 : Int32)) (by decide)).1 (by decide) (by decide) ?_
          refine s_iload (pc' := 124) X_11.here hx (hb hby at_122) rfl rfl ?_
          refine s_iconst (pc' := 125) (z := (3 : Int32)) X_11.here hx (hb hby at_124) rfl rfl ?_
          refine s_icmpYes (pc' := 135) X_11.here hx (hb hby at_125) (tltI (x := (0 : Int32)) (y := (3 : Int32)) (by decide)).1 (by decide) (by decide) ?_
          refine s_iconst (pc' := 136) (z := (1 : Int32)) X_11.here hx (hb hby at_135) rfl rfl ?_
          refine s_goto (pc' := 140) X_11.here hx (hb hby at_136) (by decide) (by decide) ?_
          exact J140 (1 : Int32) (by exact Or.inl ⟨rfl, by omega⟩)
        · skip
          show Win p.tables e below _ (s₁.setTop (mkF m 55 #[.val (.long q0), .second, .val (.long q1), .second, .val (.long q2), .second, .val (.int p3), .val (.int (1 : Int32)), .val (.long w0), .second, .val (.long w1), .second, .val (.long w2), .second, .unset, .unset, .unset] []))
          refine s_iload (pc' := 57) X0.here hx (hb hby at_55) rfl rfl ?_
          obtain ⟨T_14, h_14, k_14, X_14, e_14, Ex_14, A_14, EA_14, st_14⟩ := newPE X0 hx hZ (hw _ (List.mem_of_getElem? (i := 0) rfl)) e0 (g := (mkF m 57 #[.val (.long q0), .second, .val (.long q1), .second, .val (.long q2), .second, .val (.int p3), .val (.int (1 : Int32)), .val (.long w0), .second, .val (.long w1), .second, .val (.long w2), .second, .unset, .unset, .unset] [(.int (1 : Int32))])) rfl (hb hby at_57) rfl (by decide) (cap := 1) (by decide) (by decide) (by decide) (by decide) (ad := "[J") (by decide)
          obtain ⟨b_14, g_14⟩ : ∃ z, z = h0.size := ⟨_, rfl⟩
          have g_b_14 : n0 ≤ b_14 := Nat.le_trans Zs (Nat.le_of_eq g_14.symm)
          rw [← g_14] at A_14 EA_14 st_14
          replace Zs := Nat.le_trans Zs Ex_14.1
          have V_b_14 : Arv Z h_14 b_14 k_14 .long (1 : Int32) [(.long (0 : Int64))] (.long (0 : Int64)) := (Arv.new A_14 (by decide)).pad (pad_rep [] (.long (0 : Int64)) 1)
          have lt_b_14 := V_b_14.lt
          have E_b_14 := EA_14
          refine Win.go st_14 ?_
          show Win p.tables e below _ (T_14.setTop (mkF m 59 #[.val (.long q0), .second, .val (.long q1), .second, .val (.long q2), .second, .val (.int p3), .val (.int (1 : Int32)), .val (.long w0), .second, .val (.long w1), .second, .val (.long w2), .second, .unset, .unset, .unset] [(.ref b_14)]))
          refine s_astore (pc' := 61) (l' := #[.val (.long q0), .second, .val (.long q1), .second, .val (.long q2), .second, .val (.int p3), .val (.int (1 : Int32)), .val (.long w0), .second, .val (.long w1), .second, .val (.long w2), .second, .val (.ref b_14), .unset, .unset]) X_14.here hx (hb hby at_59) rfl rfl rfl ?_
          refine s_iload (pc' := 63) X_14.here hx (hb hby at_61) rfl rfl ?_
          refine s_ifNo (pc' := 66) X_14.here hx (hb hby at_63) rfl ((if0 _ _).trans (tltI (x := (0 : Int32)) (y := (1 : Int32)) (by decide)).2.2.2) ?_
          refine s_aload (pc' := 68) X_14.here hx (hb hby at_66) rfl rfl rfl ?_
          refine s_iconst (pc' := 69) (z := (0 : Int32)) X_14.here hx (hb hby at_68) rfl rfl ?_
          refine s_lload (pc' := 71) X_14.here hx (hb hby at_69) rfl rfl ?_
          obtain ⟨cl_15, Ar_15, q_15, S_15, N_15, H_15, G_15⟩ := V_b_14
          obtain ⟨T_15, h_15, X_15, e_15, W_15, st_15⟩ := stJ X_14 hx hZ e_14 Ar_15 (j := (0 : Int32)) (inb_of S_15 ⟨by decide, by decide⟩) (g := (mkF m 71 #[.val (.long q0), .second, .val (.long q1), .second, .val (.long q2), .second, .val (.int p3), .val (.int (1 : Int32)), .val (.long w0), .second, .val (.long w1), .second, .val (.long w2), .second, .val (.ref b_14), .unset, .unset] [(.long w0), (.int (0 : Int32)), (.ref b_14)])) rfl rfl (hb hby at_71)
          have V_15 := Arv.set Ar_15 q_15 S_15 N_15 H_15 G_15 rfl W_15 0 rfl (Nat.le_of_ble_eq_true rfl)
          replace E_b_14 := E_b_14.wr W_15
          replace lt_b_14 := Nat.lt_of_lt_of_le lt_b_14 (Keep.of_wr W_15).1
          replace Zs := Nat.le_trans Zs (Keep.of_wr W_15).1
          replace V_b_14 : Arv Z h_15 b_14 k_14 .long (1 : Int32) [(.long w0)] (.long (0 : Int64)) := V_15
          replace Nf := Fr.snoc X_15 Nf g_b_14
          refine Win.go st_15 ?_
          show Win p.tables e below _ (T_15.setTop (mkF m 72 #[.val (.long q0), .second, .val (.long q1), .second, .val (.long q2), .second, .val (.int p3), .val (.int (1 : Int32)), .val (.long w0), .second, .val (.long w1), .second, .val (.long w2), .second, .val (.ref b_14), .unset, .unset] []))
          refine s_iload (pc' := 74) X_15.here hx (hb hby at_72) rfl rfl ?_
          refine s_iconst (pc' := 75) (z := (1 : Int32)) X_15.here hx (hb hby at_74) rfl rfl ?_
          refine s_icmpYes (pc' := 84) X_15.here hx (hb hby at_75) (fltI (x := (1 : Int32)) (y := (1 : Int32)) (by decide)).2.2.2 (by decide) (by decide) ?_
          refine s_iload (pc' := 86) X_15.here hx (hb hby at_84) rfl rfl ?_
          refine s_iconst (pc' := 87) (z := (2 : Int32)) X_15.here hx (hb hby at_86) rfl rfl ?_
          refine s_icmpYes (pc' := 96) X_15.here hx (hb hby at_87) (fltI (x := (2 : Int32)) (y := (1 : Int32)) (by decide)).2.2.2 (by decide) (by decide) ?_
          have J140 : ∀ ze : Int32, ((ze.toInt = 1 ∧ (w0.toInt = 0)) ∨ (ze.toInt = 0 ∧ ¬ (w0.toInt = 0))) → Win p.tables e below (PostQ s (Q0 Z q0 q1 q2 p3 h0 n0) room_1.cells room_1.slots) (T_15.setTop (mkF m 140 #[.val (.long q0), .second, .val (.long q1), .second, .val (.long q2), .second, .val (.int p3), .val (.int (1 : Int32)), .val (.long w0), .second, .val (.long w1), .second, .val (.long w2), .second, .val (.ref b_14), .unset, .unset] [(.int ze)])) := by
            intro ze hJ140
            refine s_istore (pc' := 142) (l' := #[.val (.long q0), .second, .val (.long q1), .second, .val (.long q2), .second, .val (.int p3), .val (.int (1 : Int32)), .val (.long w0), .second, .val (.long w1), .second, .val (.long w2), .second, .val (.ref b_14), .val (.int ze), .unset]) X_15.here hx (hb hby at_140) rfl rfl ?_
            refine s_aload (pc' := 144) X_15.here hx (hb hby at_142) rfl rfl rfl ?_
            obtain ⟨_, _, ⟨T_16, L_16, k_16, n_16⟩, -, X_16, ⟨Lc_16, hQ_16, l_16, y_16, z_16⟩, st_16⟩ := Jvm.LawKit.callS X_15 hx (y := (⟨"com/example/faithful_deputy/faithfuldeputy/Bits", "isEmpty", "([J)Z"⟩ : MethodName)) hown (mvT hZ (hw _ (List.mem_of_getElem? (i := 1) rfl))) (mvT hZ (hw _ (List.mem_of_getElem? (i := 2) rfl))) (mvT hZ (hw _ (List.mem_of_getElem? (i := 3) rfl))) (mvT hZ (hw _ (List.mem_of_getElem? (i := 4) rfl))) (by decide) (backOf (W := 0) (rm1_1 l Z a0 hw [] b_14 k_14 w0 h_15 n0 Zs V_b_14) hZ (hw _ (List.mem_of_getElem? (i := 4) rfl)) (hw _ (List.mem_of_getElem? (i := 3) rfl)) (by decide) (by decide)) (g := (mkF m 144 #[.val (.long q0), .second, .val (.long q1), .second, .val (.long q2), .second, .val (.int p3), .val (.int (1 : Int32)), .val (.long w0), .second, .val (.long w1), .second, .val (.long w2), .second, .val (.ref b_14), .val (.int ze), .unset] [(.ref b_14)])) rfl (by rw [hml]; rfl) (argsL := [(.ref b_14)]) (rest := []) (lenOf pd_0 rfl) rfl (by show 2 * 0 + _ ≤ _; exact Nat.le_of_eq rfl) (hb hby at_144) (fun _ _ => ⟨rfl, e_15, (by decide : 1 + 0 ≤ _), (by decide : 1 + 0 ≤ _)⟩)
            dsimp only [Pt.U, Pt.locs, Pt.cells, Pt.slots] at X_16 l_16 y_16 z_16 st_16 hQ_16
            subst l_16 y_16 z_16
            obtain ⟨Nq_16, e_16, r1, rfl, hr1⟩ := hQ_16
            replace Nf := Fr.app Nf Nq_16
            refine Win.go st_16 ?_
            show Win p.tables e below _ (T_16.setTop (mkF m 147 #[.val (.long q0), .second, .val (.long q1), .second, .val (.long q2), .second, .val (.int p3), .val (.int (1 : Int32)), .val (.long w0), .second, .val (.long w1), .second, .val (.long w2), .second, .val (.ref b_14), .val (.int ze), .unset] [(.int r1)]))
            refine s_istore (pc' := 149) (l' := #[.val (.long q0), .second, .val (.long q1), .second, .val (.long q2), .second, .val (.int p3), .val (.int (1 : Int32)), .val (.long w0), .second, .val (.long w1), .second, .val (.long w2), .second, .val (.ref b_14), .val (.int ze), .val (.int r1)]) X_16.here hx (hb hby at_147) rfl rfl ?_
            refine s_iload (pc' := 151) X_16.here hx (hb hby at_149) rfl rfl ?_
            refine s_iload (pc' := 153) X_16.here hx (hb hby at_151) rfl rfl ?_
            by_cases hc153 : (r1).toInt = (ze).toInt
            · skip
              refine s_icmpYes (pc' := 158) X_16.here hx (hb hby at_153) (teqI (x := r1) (y := ze) hc153).1 (by decide) (by decide) ?_
              refine s_aload (pc' := 160) X_16.here hx (hb hby at_158) rfl rfl rfl ?_
              obtain ⟨cl_17, Ar_17, q_17, S_17, N_17, H_17, G_17⟩ := id V_b_14
              refine Win.go (fun _ k => X_16.arraylength hx (by rw [e_16]; exact Ar_17.1) (State.isArrayOf_alike hZ.alike Ar_17.2.1) (g := (mkF m 160 #[.val (.long q0), .second, .val (.long q1), .second, .val (.long q2), .second, .val (.int p3), .val (.int (1 : Int32)), .val (.long w0), .second, .val (.long w1), .second, .val (.long w2), .second, .val (.ref b_14), .val (.int ze), .val (.int r1)] [(.ref b_14)])) rfl rfl (hb hby at_160) _ k) ?_
              rw [len_of S_17 N_17]
              show Win p.tables e below _ (T_16.setTop (mkF m 161 #[.val (.long q0), .second, .val (.long q1), .second, .val (.long q2), .second, .val (.int p3), .val (.int (1 : Int32)), .val (.long w0), .second, .val (.long w1), .second, .val (.long w2), .second, .val (.ref b_14), .val (.int ze), .val (.int r1)] [(.int (1 : Int32))]))
              refine s_iload (pc' := 163) X_16.here hx (hb hby at_161) rfl rfl ?_
              refine s_icmpYes (pc' := 168) X_16.here hx (hb hby at_163) (teqI (x := (1 : Int32)) (y := (1 : Int32)) (by decide)).1 (by decide) (by decide) ?_
              refine s_iload (pc' := 170) X_16.here hx (hb hby at_168) rfl rfl ?_
              refine s_ifNo (pc' := 173) X_16.here hx (hb hby at_170) rfl ((if0 _ _).trans (tltI (x := (0 : Int32)) (y := (1 : Int32)) (by decide)).2.2.2) ?_
              refine s_aload (pc' := 175) X_16.here hx (hb hby at_173) rfl rfl rfl ?_
              refine s_iconst (pc' := 176) (z := (0 : Int32)) X_16.here hx (hb hby at_175) rfl rfl ?_
              obtain ⟨cl_18, Ar_18, q_18, S_18, N_18, H_18, G_18⟩ := id V_b_14
              have hi_18 : ¬ ((0 : Int32) < 0 ∨ cl_18.slots.size ≤ ((0 : Int32)).toNatClampNeg) := inb_of S_18 ⟨by decide, by decide⟩
              refine Win.go (fun _ k => X_16.laload hx (j := (0 : Int32)) (v := (.long w0)) (by rw [e_16]; exact Ar_18.1) (State.isArrayOf_alike hZ.alike Ar_18.2.1) Ar_18.2.2 hi_18 (H_18.at hi_18 rfl) (g := (mkF m 176 #[.val (.long q0), .second, .val (.long q1), .second, .val (.long q2), .second, .val (.int p3), .val (.int (1 : Int32)), .val (.long w0), .second, .val (.long w1), .second, .val (.long w2), .second, .val (.ref b_14), .val (.int ze), .val (.int r1)] [(.int (0 : Int32)), (.ref b_14)])) rfl rfl (hb hby at_176) _ k) ?_
              show Win p.tables e below _ (T_16.setTop (mkF m 177 #[.val (.long q0), .second, .val (.long q1), .second, .val (.long q2), .second, .val (.int p3), .val (.int (1 : Int32)), .val (.long w0), .second, .val (.long w1), .second, .val (.long w2), .second, .val (.ref b_14), .val (.int ze), .val (.int r1)] [(.long w0)]))
              refine s_lload (pc' := 179) X_16.here hx (hb hby at_177) rfl rfl ?_
              refine s_lcmp (pc' := 180) X_16.here hx (hb hby at_179) rfl ?_
              refine s_ifYes (pc' := 185) X_16.here hx (hb hby at_180) (teqL (x := w0) (y := w0) (rfl)).1 (by decide) (by decide) ?_
              refine s_iload (pc' := 187) X_16.here hx (hb hby at_185) rfl rfl ?_
              refine s_iconst (pc' := 188) (z := (1 : Int32)) X_16.here hx (hb hby at_187) rfl rfl ?_
              refine s_icmpYes (pc' := 203) X_16.here hx (hb hby at_188) (fltI (x := (1 : Int32)) (y := (1 : Int32)) (by decide)).2.2.2 (by decide) (by decide) ?_
              refine s_iload (pc' := 205) X_16.here hx (hb hby at_203) rfl rfl ?_
              refine s_iconst (pc' := 206) (z := (2 : Int32)) X_16.here hx (hb hby at_205) rfl rfl ?_
              refine s_icmpYes (pc' := 221) X_16.here hx (hb hby at_206) (fltI (x := (2 : Int32)) (y := (1 : Int32)) (by decide)).2.2.2 (by decide) (by decide) ?_
              refine s_iconst (pc' := 222) (z := (1 : Int32)) X_16.here hx (hb hby at_221) rfl rfl ?_
              refine winN X_16 hx hlk e_16 (t := .boolean) Bd.returns (by simp) (hb hby at_222) (by decide) (by decide) (z' := 1) rfl ⟨Nf, rfl⟩
            · skip
              refine s_icmpNo (pc' := 156) X_16.here hx (hb hby at_153) rfl (feqI (x := r1) (y := ze) hc153).1 ?_
              refine s_iconst (pc' := 157) (z := (0 : Int32)) X_16.here hx (hb hby at_156) rfl rfl ?_
              exfalso
              omega
          refine s_iload (pc' := 98) X_15.here hx (hb hby at_96) rfl rfl ?_
          refine s_iconst (pc' := 99) (z := (1 : Int32)) X_15.here hx (hb hby at_98) rfl rfl ?_
          refine s_icmpNo (pc' := 102) X_15.here hx (hb hby at_99) rfl (fltI (x := (1 : Int32)) (y := (1 : Int32)) (by decide)).1 ?_
          refine s_lload (pc' := 104) X_15.here hx (hb hby at_102) rfl rfl ?_
          refine s_lconst (pc' := 105) (z := (0 : Int64)) X_15.here hx (hb hby at_104) rfl rfl ?_
          refine s_lcmp (pc' := 106) X_15.here hx (hb hby at_105) rfl ?_
          by_cases hc106 : (w0).toInt = (0 : Int)
          · skip
            refine s_ifNo (pc' := 109) X_15.here hx (hb hby at_106) rfl (teqL (x := w0) (y := (0 : Int64)) hc106).2 ?_
            refine s_iload (pc' := 111) X_15.here hx (hb hby at_109) rfl rfl ?_
            refine s_iconst (pc' := 112) (z := (2 : Int32)) X_15.here hx (hb hby at_111) rfl rfl ?_
            refine s_icmpYes (pc' := 122) X_15.here hx (hb hby at_112) (tltI (x := (1 : Int32)) (y := (2 : Int32)) (by decide)).1 (by decide) (by decide) ?_
            refine s_iload (pc' := 124) X_15.here hx (hb hby at_122) rfl rfl ?_
            refine s_iconst (pc' := 125) (z := (3 : Int32)) X_15.here hx (hb hby at_124) rfl rfl ?_
            refine s_icmpYes (pc' := 135) X_15.here hx (hb hby at_125) (tltI (x := (1 : Int32)) (y := (3 : Int32)) (by decide)).1 (by decide) (by decide) ?_
            refine s_iconst (pc' := 136) (z := (1 : Int32)) X_15.here hx (hb hby at_135) rfl rfl ?_
            refine s_goto (pc' := 140) X_15.here hx (hb hby at_136) (by decide) (by decide) ?_
            exact J140 (1 : Int32) (by exact Or.inl ⟨rfl, by omega⟩)
          · skip
            refine s_ifYes (pc' := 139) X_15.here hx (hb hby at_106) (feqL (x := w0) (y := (0 : Int64)) hc106).2 (by decide) (by decide) ?_
            refine s_iconst (pc' := 140) (z := (0 : Int32)) X_15.here hx (hb hby at_139) rfl rfl ?_
            exact J140 (0 : Int32) (by exact Or.inr ⟨rfl, by omega⟩)
        · skip
          show Win p.tables e below _ (s₁.setTop (mkF m 55 #[.val (.long q0), .second, .val (.long q1), .second, .val (.long q2), .second, .val (.int p3), .val (.int (2 : Int32)), .val (.long w0), .second, .val (.long w1), .second, .val (.long w2), .second, .unset, .unset, .unset] []))
          refine s_iload (pc' := 57) X0.here hx (hb hby at_55) rfl rfl ?_
          obtain ⟨T_19, h_19, k_19, X_19, e_19, Ex_19, A_19, EA_19, st_19⟩ := newPE X0 hx hZ (hw _ (List.mem_of_getElem? (i := 0) rfl)) e0 (g := (mkF m 57 #[.val (.long q0), .second, .val (.long q1), .second, .val (.long q2), .second, .val (.int p3), .val (.int (2 : Int32)), .val (.long w0), .second, .val (.long w1), .second, .val (.long w2), .second, .unset, .unset, .unset] [(.int (2 : Int32))])) rfl (hb hby at_57) rfl (by decide) (cap := 2) (by decide) (by decide) (by decide) (by decide) (ad := "[J") (by decide)
          obtain ⟨b_19, g_19⟩ : ∃ z, z = h0.size := ⟨_, rfl⟩
          have g_b_19 : n0 ≤ b_19 := Nat.le_trans Zs (Nat.le_of_eq g_19.symm)
          rw [← g_19] at A_19 EA_19 st_19
          replace Zs := Nat.le_trans Zs Ex_19.1
          have V_b_19 : Arv Z h_19 b_19 k_19 .long (2 : Int32) [(.long (0 : Int64)), (.long (0 : Int64))] (.long (0 : Int64)) := (Arv.new A_19 (by decide)).pad (pad_rep [] (.long (0 : Int64)) 2)
          have lt_b_19 := V_b_19.lt
          have E_b_19 := EA_19
          refine Win.go st_19 ?_
          show Win p.tables e below _ (T_19.setTop (mkF m 59 #[.val (.long q0), .second, .val (.long q1), .second, .val (.long q2), .second, .val (.int p3), .val (.int (2 : Int32)), .val (.long w0), .second, .val (.long w1), .second, .val (.long w2), .second, .unset, .unset, .unset] [(.ref b_19)]))
          refine s_astore (pc' := 61) (l' := #[.val (.long q0), .second, .val (.long q1), .second, .val (.long q2), .second, .val (.int p3), .val (.int (2 : Int32)), .val (.long w0), .second, .val (.long w1), .second, .val (.long w2), .second, .val (.ref b_19), .unset, .unset]) X_19.here hx (hb hby at_59) rfl rfl rfl ?_
          refine s_iload (pc' := 63) X_19.here hx (hb hby at_61) rfl rfl ?_
          refine s_ifNo (pc' := 66) X_19.here hx (hb hby at_63) rfl ((if0 _ _).trans (tltI (x := (0 : Int32)) (y := (2 : Int32)) (by decide)).2.2.2) ?_
          refine s_aload (pc' := 68) X_19.here hx (hb hby at_66) rfl rfl rfl ?_
          refine s_iconst (pc' := 69) (z := (0 : Int32)) X_19.here hx (hb hby at_68) rfl rfl ?_
          refine s_lload (pc' := 71) X_19.here hx (hb hby at_69) rfl rfl ?_
          obtain ⟨cl_20, Ar_20, q_20, S_20, N_20, H_20, G_20⟩ := V_b_19
          obtain ⟨T_20, h_20, X_20, e_20, W_20, st_20⟩ := stJ X_19 hx hZ e_19 Ar_20 (j := (0 : Int32)) (inb_of S_20 ⟨by decide, by decide⟩) (g := (mkF m 71 #[.val (.long q0), .second, .val (.long q1), .second, .val (.long q2), .second, .val (.int p3), .val (.int (2 : Int32)), .val (.long w0), .second, .val (.long w1), .second, .val (.long w2), .second, .val (.ref b_19), .unset, .unset] [(.long w0), (.int (0 : Int32)), (.ref b_19)])) rfl rfl (hb hby at_71)
          have V_20 := Arv.set Ar_20 q_20 S_20 N_20 H_20 G_20 rfl W_20 0 rfl (Nat.le_of_ble_eq_true rfl)
          replace E_b_19 := E_b_19.wr W_20
          replace lt_b_19 := Nat.lt_of_lt_of_le lt_b_19 (Keep.of_wr W_20).1
          replace Zs := Nat.le_trans Zs (Keep.of_wr W_20).1
          replace V_b_19 : Arv Z h_20 b_19 k_19 .long (2 : Int32) [(.long w0), (.long (0 : Int64))] (.long (0 : Int64)) := V_20
          replace Nf := Fr.snoc X_20 Nf g_b_19
          refine Win.go st_20 ?_
          show Win p.tables e below _ (T_20.setTop (mkF m 72 #[.val (.long q0), .second, .val (.long q1), .second, .val (.long q2), .second, .val (.int p3), .val (.int (2 : Int32)), .val (.long w0), .second, .val (.long w1), .second, .val (.long w2), .second, .val (.ref b_19), .unset, .unset] []))
          refine s_iload (pc' := 74) X_20.here hx (hb hby at_72) rfl rfl ?_
          refine s_iconst (pc' := 75) (z := (1 : Int32)) X_20.here hx (hb hby at_74) rfl rfl ?_
          refine s_icmpNo (pc' := 78) X_20.here hx (hb hby at_75) rfl (tltI (x := (1 : Int32)) (y := (2 : Int32)) (by decide)).2.2.2 ?_
          refine s_aload (pc' := 80) X_20.here hx (hb hby at_78) rfl rfl rfl ?_
          refine s_iconst (pc' := 81) (z := (1 : Int32)) X_20.here hx (hb hby at_80) rfl rfl ?_
          refine s_lload (pc' := 83) X_20.here hx (hb hby at_81) rfl rfl ?_
          obtain ⟨cl_21, Ar_21, q_21, S_21, N_21, H_21, G_21⟩ := V_b_19
          obtain ⟨T_21, h_21, X_21, e_21, W_21, st_21⟩ := stJ X_20 hx hZ e_20 Ar_21 (j := (1 : Int32)) (inb_of S_21 ⟨by decide, by decide⟩) (g := (mkF m 83 #[.val (.long q0), .second, .val (.long q1), .second, .val (.long q2), .second, .val (.int p3), .val (.int (2 : Int32)), .val (.long w0), .second, .val (.long w1), .second, .val (.long w2), .second, .val (.ref b_19), .unset, .unset] [(.long w1), (.int (1 : Int32)), (.ref b_19)])) rfl rfl (hb hby at_83)
          have V_21 := Arv.set Ar_21 q_21 S_21 N_21 H_21 G_21 rfl W_21 1 rfl (Nat.le_of_ble_eq_true rfl)
          replace E_b_19 := E_b_19.wr W_21
          replace lt_b_19 := Nat.lt_of_lt_of_le lt_b_19 (Keep.of_wr W_21).1
          replace Zs := Nat.le_trans Zs (Keep.of_wr W_21).1
          replace V_b_19 : Arv Z h_21 b_19 k_19 .long (2 : Int32) [(.long w0), (.long w1)] (.long (0 : Int64)) := V_21
          replace Nf := Fr.snoc X_21 Nf g_b_19
          refine Win.go st_21 ?_
          show Win p.tables e below _ (T_21.setTop (mkF m 84 #[.val (.long q0), .second, .val (.long q1), .second, .val (.long q2), .second, .val (.int p3), .val (.int (2 : Int32)), .val (.long w0), .second, .val (.long w1), .second, .val (.long w2), .second, .val (.ref b_19), .unset, .unset] []))
          refine s_iload (pc' := 86) X_21.here hx (hb hby at_84) rfl rfl ?_
          refine s_iconst (pc' := 87) (z := (2 : Int32)) X_21.here hx (hb hby at_86) rfl rfl ?_
          refine s_icmpYes (pc' := 96) X_21.here hx (hb hby at_87) (fltI (x := (2 : Int32)) (y := (2 : Int32)) (by decide)).2.2.2 (by decide) (by decide) ?_
          have J140 : ∀ ze : Int32, ((ze.toInt = 1 ∧ (w0.toInt = 0 ∧ w1.toInt = 0)) ∨ (ze.toInt = 0 ∧ ¬ (w0.toInt = 0 ∧ w1.toInt = 0))) → Win p.tables e below (PostQ s (Q0 Z q0 q1 q2 p3 h0 n0) room_1.cells room_1.slots) (T_21.setTop (mkF m 140 #[.val (.long q0), .second, .val (.long q1), .second, .val (.long q2), .second, .val (.int p3), .val (.int (2 : Int32)), .val (.long w0), .second, .val (.long w1), .second, .val (.long w2), .second, .val (.ref b_19), .unset, .unset] [(.int ze)])) := by
            intro ze hJ140
            refine s_istore (pc' := 142) (l' := #[.val (.long q0), .second, .val (.long q1), .second, .val (.long q2), .second, .val (.int p3), .val (.int (2 : Int32)), .val (.long w0), .second, .val (.long w1), .second, .val (.long w2), .second, .val (.ref b_19), .val (.int ze), .unset]) X_21.here hx (hb hby at_140) rfl rfl ?_
            refine s_aload (pc' := 144) X_21.here hx (hb hby at_142) rfl rfl rfl ?_
            obtain ⟨_, _, ⟨T_22, L_22, k_22, n_22⟩, -, X_22, ⟨Lc_22, hQ_22, l_22, y_22, z_22⟩, st_22⟩ := Jvm.LawKit.callS X_21 hx (y := (⟨"com/example/faithful_deputy/faithfuldeputy/Bits", "isEmpty", "([J)Z"⟩ : MethodName)) hown (mvT hZ (hw _ (List.mem_of_getElem? (i := 1) rfl))) (mvT hZ (hw _ (List.mem_of_getElem? (i := 2) rfl))) (mvT hZ (hw _ (List.mem_of_getElem? (i := 3) rfl))) (mvT hZ (hw _ (List.mem_of_getElem? (i := 4) rfl))) (by decide) (backOf (W := 0) (rm1_2 l Z a0 hw [] b_19 k_19 w0 w1 h_21 n0 Zs V_b_19) hZ (hw _ (List.mem_of_getElem? (i := 4) rfl)) (hw _ (List.mem_of_getElem? (i := 3) rfl)) (by decide) (by decide)) (g := (mkF m 144 #[.val (.long q0), .second, .val (.long q1), .second, .val (.long q2), .second, .val (.int p3), .val (.int (2 : Int32)), .val (.long w0), .second, .val (.long w1), .second, .val (.long w2), .second, .val (.ref b_19), .val (.int ze), .unset] [(.ref b_19)])) rfl (by rw [hml]; rfl) (argsL := [(.ref b_19)]) (rest := []) (lenOf pd_0 rfl) rfl (by show 2 * 0 + _ ≤ _; exact Nat.le_of_eq rfl) (hb hby at_144) (fun _ _ => ⟨rfl, e_21, (by decide : 1 + 0 ≤ _), (by decide : 2 + 0 ≤ _)⟩)
            dsimp only [Pt.U, Pt.locs, Pt.cells, Pt.slots] at X_22 l_22 y_22 z_22 st_22 hQ_22
            subst l_22 y_22 z_22
            obtain ⟨Nq_22, e_22, r1, rfl, hr1⟩ := hQ_22
            replace Nf := Fr.app Nf Nq_22
            refine Win.go st_22 ?_
            show Win p.tables e below _ (T_22.setTop (mkF m 147 #[.val (.long q0), .second, .val (.long q1), .second, .val (.long q2), .second, .val (.int p3), .val (.int (2 : Int32)), .val (.long w0), .second, .val (.long w1), .second, .val (.long w2), .second, .val (.ref b_19), .val (.int ze), .unset] [(.int r1)]))
            refine s_istore (pc' := 149) (l' := #[.val (.long q0), .second, .val (.long q1), .second, .val (.long q2), .second, .val (.int p3), .val (.int (2 : Int32)), .val (.long w0), .second, .val (.long w1), .second, .val (.long w2), .second, .val (.ref b_19), .val (.int ze), .val (.int r1)]) X_22.here hx (hb hby at_147) rfl rfl ?_
            refine s_iload (pc' := 151) X_22.here hx (hb hby at_149) rfl rfl ?_
            refine s_iload (pc' := 153) X_22.here hx (hb hby at_151) rfl rfl ?_
            by_cases hc153 : (r1).toInt = (ze).toInt
            · skip
              refine s_icmpYes (pc' := 158) X_22.here hx (hb hby at_153) (teqI (x := r1) (y := ze) hc153).1 (by decide) (by decide) ?_
              refine s_aload (pc' := 160) X_22.here hx (hb hby at_158) rfl rfl rfl ?_
              obtain ⟨cl_23, Ar_23, q_23, S_23, N_23, H_23, G_23⟩ := id V_b_19
              refine Win.go (fun _ k => X_22.arraylength hx (by rw [e_22]; exact Ar_23.1) (State.isArrayOf_alike hZ.alike Ar_23.2.1) (g := (mkF m 160 #[.val (.long q0), .second, .val (.long q1), .second, .val (.long q2), .second, .val (.int p3), .val (.int (2 : Int32)), .val (.long w0), .second, .val (.long w1), .second, .val (.long w2), .second, .val (.ref b_19), .val (.int ze), .val (.int r1)] [(.ref b_19)])) rfl rfl (hb hby at_160) _ k) ?_
              rw [len_of S_23 N_23]
              show Win p.tables e below _ (T_22.setTop (mkF m 161 #[.val (.long q0), .second, .val (.long q1), .second, .val (.long q2), .second, .val (.int p3), .val (.int (2 : Int32)), .val (.long w0), .second, .val (.long w1), .second, .val (.long w2), .second, .val (.ref b_19), .val (.int ze), .val (.int r1)] [(.int (2 : Int32))]))
              refine s_iload (pc' := 163) X_22.here hx (hb hby at_161) rfl rfl ?_
              refine s_icmpYes (pc' := 168) X_22.here hx (hb hby at_163) (teqI (x := (2 : Int32)) (y := (2 : Int32)) (by decide)).1 (by decide) (by decide) ?_
              refine s_iload (pc' := 170) X_22.here hx (hb hby at_168) rfl rfl ?_
              refine s_ifNo (pc' := 173) X_22.here hx (hb hby at_170) rfl ((if0 _ _).trans (tltI (x := (0 : Int32)) (y := (2 : Int32)) (by decide)).2.2.2) ?_
              refine s_aload (pc' := 175) X_22.here hx (hb hby at_173) rfl rfl rfl ?_
              refine s_iconst (pc' := 176) (z := (0 : Int32)) X_22.here hx (hb hby at_175) rfl rfl ?_
              obtain ⟨cl_24, Ar_24, q_24, S_24, N_24, H_24, G_24⟩ := id V_b_19
              have hi_24 : ¬ ((0 : Int32) < 0 ∨ cl_24.slots.size ≤ ((0 : Int32)).toNatClampNeg) := inb_of S_24 ⟨by decide, by decide⟩
              refine Win.go (fun _ k => X_22.laload hx (j := (0 : Int32)) (v := (.long w0)) (by rw [e_22]; exact Ar_24.1) (State.isArrayOf_alike hZ.alike Ar_24.2.1) Ar_24.2.2 hi_24 (H_24.at hi_24 rfl) (g := (mkF m 176 #[.val (.long q0), .second, .val (.long q1), .second, .val (.long q2), .second, .val (.int p3), .val (.int (2 : Int32)), .val (.long w0), .second, .val (.long w1), .second, .val (.long w2), .second, .val (.ref b_19), .val (.int ze), .val (.int r1)] [(.int (0 : Int32)), (.ref b_19)])) rfl rfl (hb hby at_176) _ k) ?_
              show Win p.tables e below _ (T_22.setTop (mkF m 177 #[.val (.long q0), .second, .val (.long q1), .second, .val (.long q2), .second, .val (.int p3), .val (.int (2 : Int32)), .val (.long w0), .second, .val (.long w1), .second, .val (.long w2), .second, .val (.ref b_19), .val (.int ze), .val (.int r1)] [(.long w0)]))
              refine s_lload (pc' := 179) X_22.here hx (hb hby at_177) rfl rfl ?_
              refine s_lcmp (pc' := 180) X_22.here hx (hb hby at_179) rfl ?_
              refine s_ifYes (pc' := 185) X_22.here hx (hb hby at_180) (teqL (x := w0) (y := w0) (rfl)).1 (by decide) (by decide) ?_
              refine s_iload (pc' := 187) X_22.here hx (hb hby at_185) rfl rfl ?_
              refine s_iconst (pc' := 188) (z := (1 : Int32)) X_22.here hx (hb hby at_187) rfl rfl ?_
              refine s_icmpNo (pc' := 191) X_22.here hx (hb hby at_188) rfl (tltI (x := (1 : Int32)) (y := (2 : Int32)) (by decide)).2.2.2 ?_
              refine s_aload (pc' := 193) X_22.here hx (hb hby at_191) rfl rfl rfl ?_
              refine s_iconst (pc' := 194) (z := (1 : Int32)) X_22.here hx (hb hby at_193) rfl rfl ?_
              obtain ⟨cl_25, Ar_25, q_25, S_25, N_25, H_25, G_25⟩ := id V_b_19
              have hi_25 : ¬ ((1 : Int32) < 0 ∨ cl_25.slots.size ≤ ((1 : Int32)).toNatClampNeg) := inb_of S_25 ⟨by decide, by decide⟩
              refine Win.go (fun _ k => X_22.laload hx (j := (1 : Int32)) (v := (.long w1)) (by rw [e_22]; exact Ar_25.1) (State.isArrayOf_alike hZ.alike Ar_25.2.1) Ar_25.2.2 hi_25 (H_25.at hi_25 rfl) (g := (mkF m 194 #[.val (.long q0), .second, .val (.long q1), .second, .val (.long q2), .second, .val (.int p3), .val (.int (2 : Int32)), .val (.long w0), .second, .val (.long w1), .second, .val (.long w2), .second, .val (.ref b_19), .val (.int ze), .val (.int r1)] [(.int (1 : Int32)), (.ref b_19)])) rfl rfl (hb hby at_194) _ k) ?_
              show Win p.tables e below _ (T_22.setTop (mkF m 195 #[.val (.long q0), .second, .val (.long q1), .second, .val (.long q2), .second, .val (.int p3), .val (.int (2 : Int32)), .val (.long w0), .second, .val (.long w1), .second, .val (.long w2), .second, .val (.ref b_19), .val (.int ze), .val (.int r1)] [(.long w1)]))
              refine s_lload (pc' := 197) X_22.here hx (hb hby at_195) rfl rfl ?_
              refine s_lcmp (pc' := 198) X_22.here hx (hb hby at_197) rfl ?_
              refine s_ifYes (pc' := 203) X_22.here hx (hb hby at_198) (teqL (x := w1) (y := w1) (rfl)).1 (by decide) (by decide) ?_
              refine s_iload (pc' := 205) X_22.here hx (hb hby at_203) rfl rfl ?_
              refine s_iconst (pc' := 206) (z := (2 : Int32)) X_22.here hx (hb hby at_205) rfl rfl ?_
              refine s_icmpYes (pc' := 221) X_22.here hx (hb hby at_206) (fltI (x := (2 : Int32)) (y := (2 : Int32)) (by decide)).2.2.2 (by decide) (by decide) ?_
              refine s_iconst (pc' := 222) (z := (1 : Int32)) X_22.here hx (hb hby at_221) rfl rfl ?_
              refine winN X_22 hx hlk e_22 (t := .boolean) Bd.returns (by simp) (hb hby at_222) (by decide) (by decide) (z' := 1) rfl ⟨Nf, rfl⟩
            · skip
              refine s_icmpNo (pc' := 156) X_22.here hx (hb hby at_153) rfl (feqI (x := r1) (y := ze) hc153).1 ?_
              refine s_iconst (pc' := 157) (z := (0 : Int32)) X_22.here hx (hb hby at_156) rfl rfl ?_
              exfalso
              omega
          refine s_iload (pc' := 98) X_21.here hx (hb hby at_96) rfl rfl ?_
          refine s_iconst (pc' := 99) (z := (1 : Int32)) X_21.here hx (hb hby at_98) rfl rfl ?_
          refine s_icmpNo (pc' := 102) X_21.here hx (hb hby at_99) rfl (fltI (x := (2 : Int32)) (y := (1 : Int32)) (by decide)).1 ?_
          refine s_lload (pc' := 104) X_21.here hx (hb hby at_102) rfl rfl ?_
          refine s_lconst (pc' := 105) (z := (0 : Int64)) X_21.here hx (hb hby at_104) rfl rfl ?_
          refine s_lcmp (pc' := 106) X_21.here hx (hb hby at_105) rfl ?_
          by_cases hc106 : (w0).toInt = (0 : Int)
          · skip
            refine s_ifNo (pc' := 109) X_21.here hx (hb hby at_106) rfl (teqL (x := w0) (y := (0 : Int64)) hc106).2 ?_
            refine s_iload (pc' := 111) X_21.here hx (hb hby at_109) rfl rfl ?_
            refine s_iconst (pc' := 112) (z := (2 : Int32)) X_21.here hx (hb hby at_111) rfl rfl ?_
            refine s_icmpNo (pc' := 115) X_21.here hx (hb hby at_112) rfl (fltI (x := (2 : Int32)) (y := (2 : Int32)) (by decide)).1 ?_
            refine s_lload (pc' := 117) X_21.here hx (hb hby at_115) rfl rfl ?_
            refine s_lconst (pc' := 118) (z := (0 : Int64)) X_21.here hx (hb hby at_117) rfl rfl ?_
            refine s_lcmp (pc' := 119) X_21.here hx (hb hby at_118) rfl ?_
            by_cases hc119 : (w1).toInt = (0 : Int)
            · skip
              refine s_ifNo (pc' := 122) X_21.here hx (hb hby at_119) rfl (teqL (x := w1) (y := (0 : Int64)) hc119).2 ?_
              refine s_iload (pc' := 124) X_21.here hx (hb hby at_122) rfl rfl ?_
              refine s_iconst (pc' := 125) (z := (3 : Int32)) X_21.here hx (hb hby at_124) rfl rfl ?_
              refine s_icmpYes (pc' := 135) X_21.here hx (hb hby at_125) (tltI (x := (2 : Int32)) (y := (3 : Int32)) (by decide)).1 (by decide) (by decide) ?_
              refine s_iconst (pc' := 136) (z := (1 : Int32)) X_21.here hx (hb hby at_135) rfl rfl ?_
              refine s_goto (pc' := 140) X_21.here hx (hb hby at_136) (by decide) (by decide) ?_
              exact J140 (1 : Int32) (by exact Or.inl ⟨rfl, by omega⟩)
            · skip
              refine s_ifYes (pc' := 139) X_21.here hx (hb hby at_119) (feqL (x := w1) (y := (0 : Int64)) hc119).2 (by decide) (by decide) ?_
              refine s_iconst (pc' := 140) (z := (0 : Int32)) X_21.here hx (hb hby at_139) rfl rfl ?_
              exact J140 (0 : Int32) (by exact Or.inr ⟨rfl, by omega⟩)
          · skip
            refine s_ifYes (pc' := 139) X_21.here hx (hb hby at_106) (feqL (x := w0) (y := (0 : Int64)) hc106).2 (by decide) (by decide) ?_
            refine s_iconst (pc' := 140) (z := (0 : Int32)) X_21.here hx (hb hby at_139) rfl rfl ?_
            exact J140 (0 : Int32) (by exact Or.inr ⟨rfl, by omega⟩)
        · skip
          show Win p.tables e below _ (s₁.setTop (mkF m 55 #[.val (.long q0), .second, .val (.long q1), .second, .val (.long q2), .second, .val (.int p3), .val (.int (3 : Int32)), .val (.long w0), .second, .val (.long w1), .second, .val (.long w2), .second, .unset, .unset, .unset] []))
          refine s_iload (pc' := 57) X0.here hx (hb hby at_55) rfl rfl ?_
          obtain ⟨T_26, h_26, k_26, X_26, e_26, Ex_26, A_26, EA_26, st_26⟩ := newPE X0 hx hZ (hw _ (List.mem_of_getElem? (i := 0) rfl)) e0 (g := (mkF m 57 #[.val (.long q0), .second, .val (.long q1), .second, .val (.long q2), .second, .val (.int p3), .val (.int (3 : Int32)), .val (.long w0), .second, .val (.long w1), .second, .val (.long w2), .second, .unset, .unset, .unset] [(.int (3 : Int32))])) rfl (hb hby at_57) rfl (by decide) (cap := 3) (by decide) (by decide) (by decide) (by decide) (ad := "[J") (by decide)
          obtain ⟨b_26, g_26⟩ : ∃ z, z = h0.size := ⟨_, rfl⟩
          have g_b_26 : n0 ≤ b_26 := Nat.le_trans Zs (Nat.le_of_eq g_26.symm)
          rw [← g_26] at A_26 EA_26 st_26
          replace Zs := Nat.le_trans Zs Ex_26.1
          have V_b_26 : Arv Z h_26 b_26 k_26 .long (3 : Int32) [(.long (0 : Int64)), (.long (0 : Int64)), (.long (0 : Int64))] (.long (0 : Int64)) := (Arv.new A_26 (by decide)).pad (pad_rep [] (.long (0 : Int64)) 3)
          have lt_b_26 := V_b_26.lt
          have E_b_26 := EA_26
          refine Win.go st_26 ?_
          show Win p.tables e below _ (T_26.setTop (mkF m 59 #[.val (.long q0), .second, .val (.long q1), .second, .val (.long q2), .second, .val (.int p3), .val (.int (3 : Int32)), .val (.long w0), .second, .val (.long w1), .second, .val (.long w2), .second, .unset, .unset, .unset] [(.ref b_26)]))
          refine s_astore (pc' := 61) (l' := #[.val (.long q0), .second, .val (.long q1), .second, .val (.long q2), .second, .val (.int p3), .val (.int (3 : Int32)), .val (.long w0), .second, .val (.long w1), .second, .val (.long w2), .second, .val (.ref b_26), .unset, .unset]) X_26.here hx (hb hby at_59) rfl rfl rfl ?_
          refine s_iload (pc' := 63) X_26.here hx (hb hby at_61) rfl rfl ?_
          refine s_ifNo (pc' := 66) X_26.here hx (hb hby at_63) rfl ((if0 _ _).trans (tltI (x := (0 : Int32)) (y := (3 : Int32)) (by decide)).2.2.2) ?_
          refine s_aload (pc' := 68) X_26.here hx (hb hby at_66) rfl rfl rfl ?_
          refine s_iconst (pc' := 69) (z := (0 : Int32)) X_26.here hx (hb hby at_68) rfl rfl ?_
          refine s_lload (pc' := 71) X_26.here hx (hb hby at_69) rfl rfl ?_
          obtain ⟨cl_27, Ar_27, q_27, S_27, N_27, H_27, G_27⟩ := V_b_26
          obtain ⟨T_27, h_27, X_27, e_27, W_27, st_27⟩ := stJ X_26 hx hZ e_26 Ar_27 (j := (0 : Int32)) (inb_of S_27 ⟨by decide, by decide⟩) (g := (mkF m 71 #[.val (.long q0), .second, .val (.long q1), .second, .val (.long q2), .second, .val (.int p3), .val (.int (3 : Int32)), .val (.long w0), .second, .val (.long w1), .second, .val (.long w2), .second, .val (.ref b_26), .unset, .unset] [(.long w0), (.int (0 : Int32)), (.ref b_26)])) rfl rfl (hb hby at_71)
          have V_27 := Arv.set Ar_27 q_27 S_27 N_27 H_27 G_27 rfl W_27 0 rfl (Nat.le_of_ble_eq_true rfl)
          replace E_b_26 := E_b_26.wr W_27
          replace lt_b_26 := Nat.lt_of_lt_of_le lt_b_26 (Keep.of_wr W_27).1
          replace Zs := Nat.le_trans Zs (Keep.of_wr W_27).1
          replace V_b_26 : Arv Z h_27 b_26 k_26 .long (3 : Int32) [(.long w0), (.long (0 : Int64)), (.long (0 : Int64))] (.long (0 : Int64)) := V_27
          replace Nf := Fr.snoc X_27 Nf g_b_26
          refine Win.go st_27 ?_
          show Win p.tables e below _ (T_27.setTop (mkF m 72 #[.val (.long q0), .second, .val (.long q1), .second, .val (.long q2), .second, .val (.int p3), .val (.int (3 : Int32)), .val (.long w0), .second, .val (.long w1), .second, .val (.long w2), .second, .val (.ref b_26), .unset, .unset] []))
          refine s_iload (pc' := 74) X_27.here hx (hb hby at_72) rfl rfl ?_
          refine s_iconst (pc' := 75) (z := (1 : Int32)) X_27.here hx (hb hby at_74) rfl rfl ?_
          refine s_icmpNo (pc' := 78) X_27.here hx (hb hby at_75) rfl (tltI (x := (1 : Int32)) (y := (3 : Int32)) (by decide)).2.2.2 ?_
          refine s_aload (pc' := 80) X_27.here hx (hb hby at_78) rfl rfl rfl ?_
          refine s_iconst (pc' := 81) (z := (1 : Int32)) X_27.here hx (hb hby at_80) rfl rfl ?_
          refine s_lload (pc' := 83) X_27.here hx (hb hby at_81) rfl rfl ?_
          obtain ⟨cl_28, Ar_28, q_28, S_28, N_28, H_28, G_28⟩ := V_b_26
          obtain ⟨T_28, h_28, X_28, e_28, W_28, st_28⟩ := stJ X_27 hx hZ e_27 Ar_28 (j := (1 : Int32)) (inb_of S_28 ⟨by decide, by decide⟩) (g := (mkF m 83 #[.val (.long q0), .second, .val (.long q1), .second, .val (.long q2), .second, .val (.int p3), .val (.int (3 : Int32)), .val (.long w0), .second, .val (.long w1), .second, .val (.long w2), .second, .val (.ref b_26), .unset, .unset] [(.long w1), (.int (1 : Int32)), (.ref b_26)])) rfl rfl (hb hby at_83)
          have V_28 := Arv.set Ar_28 q_28 S_28 N_28 H_28 G_28 rfl W_28 1 rfl (Nat.le_of_ble_eq_true rfl)
          replace E_b_26 := E_b_26.wr W_28
          replace lt_b_26 := Nat.lt_of_lt_of_le lt_b_26 (Keep.of_wr W_28).1
          replace Zs := Nat.le_trans Zs (Keep.of_wr W_28).1
          replace V_b_26 : Arv Z h_28 b_26 k_26 .long (3 : Int32) [(.long w0), (.long w1), (.long (0 : Int64))] (.long (0 : Int64)) := V_28
          replace Nf := Fr.snoc X_28 Nf g_b_26
          refine Win.go st_28 ?_
          show Win p.tables e below _ (T_28.setTop (mkF m 84 #[.val (.long q0), .second, .val (.long q1), .second, .val (.long q2), .second, .val (.int p3), .val (.int (3 : Int32)), .val (.long w0), .second, .val (.long w1), .second, .val (.long w2), .second, .val (.ref b_26), .unset, .unset] []))
          refine s_iload (pc' := 86) X_28.here hx (hb hby at_84) rfl rfl ?_
          refine s_iconst (pc' := 87) (z := (2 : Int32)) X_28.here hx (hb hby at_86) rfl rfl ?_
          refine s_icmpNo (pc' := 90) X_28.here hx (hb hby at_87) rfl (tltI (x := (2 : Int32)) (y := (3 : Int32)) (by decide)).2.2.2 ?_
          refine s_aload (pc' := 92) X_28.here hx (hb hby at_90) rfl rfl rfl ?_
          refine s_iconst (pc' := 93) (z := (2 : Int32)) X_28.here hx (hb hby at_92) rfl rfl ?_
          refine s_lload (pc' := 95) X_28.here hx (hb hby at_93) rfl rfl ?_
          obtain ⟨cl_29, Ar_29, q_29, S_29, N_29, H_29, G_29⟩ := V_b_26
          obtain ⟨T_29, h_29, X_29, e_29, W_29, st_29⟩ := stJ X_28 hx hZ e_28 Ar_29 (j := (2 : Int32)) (inb_of S_29 ⟨by decide, by decide⟩) (g := (mkF m 95 #[.val (.long q0), .second, .val (.long q1), .second, .val (.long q2), .second, .val (.int p3), .val (.int (3 : Int32)), .val (.long w0), .second, .val (.long w1), .second, .val (.long w2), .second, .val (.ref b_26), .unset, .unset] [(.long w2), (.int (2 : Int32)), (.ref b_26)])) rfl rfl (hb hby at_95)
          have V_29 := Arv.set Ar_29 q_29 S_29 N_29 H_29 G_29 rfl W_29 2 rfl (Nat.le_of_ble_eq_true rfl)
          replace E_b_26 := E_b_26.wr W_29
          replace lt_b_26 := Nat.lt_of_lt_of_le lt_b_26 (Keep.of_wr W_29).1
          replace Zs := Nat.le_trans Zs (Keep.of_wr W_29).1
          replace V_b_26 : Arv Z h_29 b_26 k_26 .long (3 : Int32) [(.long w0), (.long w1), (.long w2)] (.long (0 : Int64)) := V_29
          replace Nf := Fr.snoc X_29 Nf g_b_26
          refine Win.go st_29 ?_
          show Win p.tables e below _ (T_29.setTop (mkF m 96 #[.val (.long q0), .second, .val (.long q1), .second, .val (.long q2), .second, .val (.int p3), .val (.int (3 : Int32)), .val (.long w0), .second, .val (.long w1), .second, .val (.long w2), .second, .val (.ref b_26), .unset, .unset] []))
          have J140 : ∀ ze : Int32, ((ze.toInt = 1 ∧ (w0.toInt = 0 ∧ w1.toInt = 0 ∧ w2.toInt = 0)) ∨ (ze.toInt = 0 ∧ ¬ (w0.toInt = 0 ∧ w1.toInt = 0 ∧ w2.toInt = 0))) → Win p.tables e below (PostQ s (Q0 Z q0 q1 q2 p3 h0 n0) room_1.cells room_1.slots) (T_29.setTop (mkF m 140 #[.val (.long q0), .second, .val (.long q1), .second, .val (.long q2), .second, .val (.int p3), .val (.int (3 : Int32)), .val (.long w0), .second, .val (.long w1), .second, .val (.long w2), .second, .val (.ref b_26), .unset, .unset] [(.int ze)])) := by
            intro ze hJ140
            refine s_istore (pc' := 142) (l' := #[.val (.long q0), .second, .val (.long q1), .second, .val (.long q2), .second, .val (.int p3), .val (.int (3 : Int32)), .val (.long w0), .second, .val (.long w1), .second, .val (.long w2), .second, .val (.ref b_26), .val (.int ze), .unset]) X_29.here hx (hb hby at_140) rfl rfl ?_
            refine s_aload (pc' := 144) X_29.here hx (hb hby at_142) rfl rfl rfl ?_
            obtain ⟨_, _, ⟨T_30, L_30, k_30, n_30⟩, -, X_30, ⟨Lc_30, hQ_30, l_30, y_30, z_30⟩, st_30⟩ := Jvm.LawKit.callS X_29 hx (y := (⟨"com/example/faithful_deputy/faithfuldeputy/Bits", "isEmpty", "([J)Z"⟩ : MethodName)) hown (mvT hZ (hw _ (List.mem_of_getElem? (i := 1) rfl))) (mvT hZ (hw _ (List.mem_of_getElem? (i := 2) rfl))) (mvT hZ (hw _ (List.mem_of_getElem? (i := 3) rfl))) (mvT hZ (hw _ (List.mem_of_getElem? (i := 4) rfl))) (by decide) (backOf (W := 0) (rm1_3 l Z a0 hw [] b_26 k_26 w0 w1 w2 h_29 n0 Zs V_b_26) hZ (hw _ (List.mem_of_getElem? (i := 4) rfl)) (hw _ (List.mem_of_getElem? (i := 3) rfl)) (by decide) (by decide)) (g := (mkF m 144 #[.val (.long q0), .second, .val (.long q1), .second, .val (.long q2), .second, .val (.int p3), .val (.int (3 : Int32)), .val (.long w0), .second, .val (.long w1), .second, .val (.long w2), .second, .val (.ref b_26), .val (.int ze), .unset] [(.ref b_26)])) rfl (by rw [hml]; rfl) (argsL := [(.ref b_26)]) (rest := []) (lenOf pd_0 rfl) rfl (by show 2 * 0 + _ ≤ _; exact Nat.le_of_eq rfl) (hb hby at_144) (fun _ _ => ⟨rfl, e_29, (by decide : 1 + 0 ≤ _), (by decide : 3 + 0 ≤ _)⟩)
            dsimp only [Pt.U, Pt.locs, Pt.cells, Pt.slots] at X_30 l_30 y_30 z_30 st_30 hQ_30
            subst l_30 y_30 z_30
            obtain ⟨Nq_30, e_30, r1, rfl, hr1⟩ := hQ_30
            replace Nf := Fr.app Nf Nq_30
            refine Win.go st_30 ?_
            show Win p.tables e below _ (T_30.setTop (mkF m 147 #[.val (.long q0), .second, .val (.long q1), .second, .val (.long q2), .second, .val (.int p3), .val (.int (3 : Int32)), .val (.long w0), .second, .val (.long w1), .second, .val (.long w2), .second, .val (.ref b_26), .val (.int ze), .unset] [(.int r1)]))
            refine s_istore (pc' := 149) (l' := #[.val (.long q0), .second, .val (.long q1), .second, .val (.long q2), .second, .val (.int p3), .val (.int (3 : Int32)), .val (.long w0), .second, .val (.long w1), .second, .val (.long w2), .second, .val (.ref b_26), .val (.int ze), .val (.int r1)]) X_30.here hx (hb hby at_147) rfl rfl ?_
            refine s_iload (pc' := 151) X_30.here hx (hb hby at_149) rfl rfl ?_
            refine s_iload (pc' := 153) X_30.here hx (hb hby at_151) rfl rfl ?_
            by_cases hc153 : (r1).toInt = (ze).toInt
            · skip
              refine s_icmpYes (pc' := 158) X_30.here hx (hb hby at_153) (teqI (x := r1) (y := ze) hc153).1 (by decide) (by decide) ?_
              refine s_aload (pc' := 160) X_30.here hx (hb hby at_158) rfl rfl rfl ?_
              obtain ⟨cl_31, Ar_31, q_31, S_31, N_31, H_31, G_31⟩ := id V_b_26
              refine Win.go (fun _ k => X_30.arraylength hx (by rw [e_30]; exact Ar_31.1) (State.isArrayOf_alike hZ.alike Ar_31.2.1) (g := (mkF m 160 #[.val (.long q0), .second, .val (.long q1), .second, .val (.long q2), .second, .val (.int p3), .val (.int (3 : Int32)), .val (.long w0), .second, .val (.long w1), .second, .val (.long w2), .second, .val (.ref b_26), .val (.int ze), .val (.int r1)] [(.ref b_26)])) rfl rfl (hb hby at_160) _ k) ?_
              rw [len_of S_31 N_31]
              show Win p.tables e below _ (T_30.setTop (mkF m 161 #[.val (.long q0), .second, .val (.long q1), .second, .val (.long q2), .second, .val (.int p3), .val (.int (3 : Int32)), .val (.long w0), .second, .val (.long w1), .second, .val (.long w2), .second, .val (.ref b_26), .val (.int ze), .val (.int r1)] [(.int (3 : Int32))]))
              refine s_iload (pc' := 163) X_30.here hx (hb hby at_161) rfl rfl ?_
              refine s_icmpYes (pc' := 168) X_30.here hx (hb hby at_163) (teqI (x := (3 : Int32)) (y := (3 : Int32)) (by decide)).1 (by decide) (by decide) ?_
              refine s_iload (pc' := 170) X_30.here hx (hb hby at_168) rfl rfl ?_
              refine s_ifNo (pc' := 173) X_30.here hx (hb hby at_170) rfl ((if0 _ _).trans (tltI (x := (0 : Int32)) (y := (3 : Int32)) (by decide)).2.2.2) ?_
              refine s_aload (pc' := 175) X_30.here hx (hb hby at_173) rfl rfl rfl ?_
              refine s_iconst (pc' := 176) (z := (0 : Int32)) X_30.here hx (hb hby at_175) rfl rfl ?_
              obtain ⟨cl_32, Ar_32, q_32, S_32, N_32, H_32, G_32⟩ := id V_b_26
              have hi_32 : ¬ ((0 : Int32) < 0 ∨ cl_32.slots.size ≤ ((0 : Int32)).toNatClampNeg) := inb_of S_32 ⟨by decide, by decide⟩
              refine Win.go (fun _ k => X_30.laload hx (j := (0 : Int32)) (v := (.long w0)) (by rw [e_30]; exact Ar_32.1) (State.isArrayOf_alike hZ.alike Ar_32.2.1) Ar_32.2.2 hi_32 (H_32.at hi_32 rfl) (g := (mkF m 176 #[.val (.long q0), .second, .val (.long q1), .second, .val (.long q2), .second, .val (.int p3), .val (.int (3 : Int32)), .val (.long w0), .second, .val (.long w1), .second, .val (.long w2), .second, .val (.ref b_26), .val (.int ze), .val (.int r1)] [(.int (0 : Int32)), (.ref b_26)])) rfl rfl (hb hby at_176) _ k) ?_
              show Win p.tables e below _ (T_30.setTop (mkF m 177 #[.val (.long q0), .second, .val (.long q1), .second, .val (.long q2), .second, .val (.int p3), .val (.int (3 : Int32)), .val (.long w0), .second, .val (.long w1), .second, .val (.long w2), .second, .val (.ref b_26), .val (.int ze), .val (.int r1)] [(.long w0)]))
              refine s_lload (pc' := 179) X_30.here hx (hb hby at_177) rfl rfl ?_
              refine s_lcmp (pc' := 180) X_30.here hx (hb hby at_179) rfl ?_
              refine s_ifYes (pc' := 185) X_30.here hx (hb hby at_180) (teqL (x := w0) (y := w0) (rfl)).1 (by decide) (by decide) ?_
              refine s_iload (pc' := 187) X_30.here hx (hb hby at_185) rfl rfl ?_
              refine s_iconst (pc' := 188) (z := (1 : Int32)) X_30.here hx (hb hby at_187) rfl rfl ?_
              refine s_icmpNo (pc' := 191) X_30.here hx (hb hby at_188) rfl (tltI (x := (1 : Int32)) (y := (3 : Int32)) (by decide)).2.2.2 ?_
              refine s_aload (pc' := 193) X_30.here hx (hb hby at_191) rfl rfl rfl ?_
              refine s_iconst (pc' := 194) (z := (1 : Int32)) X_30.here hx (hb hby at_193) rfl rfl ?_
              obtain ⟨cl_33, Ar_33, q_33, S_33, N_33, H_33, G_33⟩ := id V_b_26
              have hi_33 : ¬ ((1 : Int32) < 0 ∨ cl_33.slots.size ≤ ((1 : Int32)).toNatClampNeg) := inb_of S_33 ⟨by decide, by decide⟩
              refine Win.go (fun _ k => X_30.laload hx (j := (1 : Int32)) (v := (.long w1)) (by rw [e_30]; exact Ar_33.1) (State.isArrayOf_alike hZ.alike Ar_33.2.1) Ar_33.2.2 hi_33 (H_33.at hi_33 rfl) (g := (mkF m 194 #[.val (.long q0), .second, .val (.long q1), .second, .val (.long q2), .second, .val (.int p3), .val (.int (3 : Int32)), .val (.long w0), .second, .val (.long w1), .second, .val (.long w2), .second, .val (.ref b_26), .val (.int ze), .val (.int r1)] [(.int (1 : Int32)), (.ref b_26)])) rfl rfl (hb hby at_194) _ k) ?_
              show Win p.tables e below _ (T_30.setTop (mkF m 195 #[.val (.long q0), .second, .val (.long q1), .second, .val (.long q2), .second, .val (.int p3), .val (.int (3 : Int32)), .val (.long w0), .second, .val (.long w1), .second, .val (.long w2), .second, .val (.ref b_26), .val (.int ze), .val (.int r1)] [(.long w1)]))
              refine s_lload (pc' := 197) X_30.here hx (hb hby at_195) rfl rfl ?_
              refine s_lcmp (pc' := 198) X_30.here hx (hb hby at_197) rfl ?_
              refine s_ifYes (pc' := 203) X_30.here hx (hb hby at_198) (teqL (x := w1) (y := w1) (rfl)).1 (by decide) (by decide) ?_
              refine s_iload (pc' := 205) X_30.here hx (hb hby at_203) rfl rfl ?_
              refine s_iconst (pc' := 206) (z := (2 : Int32)) X_30.here hx (hb hby at_205) rfl rfl ?_
              refine s_icmpNo (pc' := 209) X_30.here hx (hb hby at_206) rfl (tltI (x := (2 : Int32)) (y := (3 : Int32)) (by decide)).2.2.2 ?_
              refine s_aload (pc' := 211) X_30.here hx (hb hby at_209) rfl rfl rfl ?_
              refine s_iconst (pc' := 212) (z := (2 : Int32)) X_30.here hx (hb hby at_211) rfl rfl ?_
              obtain ⟨cl_34, Ar_34, q_34, S_34, N_34, H_34, G_34⟩ := id V_b_26
              have hi_34 : ¬ ((2 : Int32) < 0 ∨ cl_34.slots.size ≤ ((2 : Int32)).toNatClampNeg) := inb_of S_34 ⟨by decide, by decide⟩
              refine Win.go (fun _ k => X_30.laload hx (j := (2 : Int32)) (v := (.long w2)) (by rw [e_30]; exact Ar_34.1) (State.isArrayOf_alike hZ.alike Ar_34.2.1) Ar_34.2.2 hi_34 (H_34.at hi_34 rfl) (g := (mkF m 212 #[.val (.long q0), .second, .val (.long q1), .second, .val (.long q2), .second, .val (.int p3), .val (.int (3 : Int32)), .val (.long w0), .second, .val (.long w1), .second, .val (.long w2), .second, .val (.ref b_26), .val (.int ze), .val (.int r1)] [(.int (2 : Int32)), (.ref b_26)])) rfl rfl (hb hby at_212) _ k) ?_
              show Win p.tables e below _ (T_30.setTop (mkF m 213 #[.val (.long q0), .second, .val (.long q1), .second, .val (.long q2), .second, .val (.int p3), .val (.int (3 : Int32)), .val (.long w0), .second, .val (.long w1), .second, .val (.long w2), .second, .val (.ref b_26), .val (.int ze), .val (.int r1)] [(.long w2)]))
              refine s_lload (pc' := 215) X_30.here hx (hb hby at_213) rfl rfl ?_
              refine s_lcmp (pc' := 216) X_30.here hx (hb hby at_215) rfl ?_
              refine s_ifYes (pc' := 221) X_30.here hx (hb hby at_216) (teqL (x := w2) (y := w2) (rfl)).1 (by decide) (by decide) ?_
              refine s_iconst (pc' := 222) (z := (1 : Int32)) X_30.here hx (hb hby at_221) rfl rfl ?_
              refine winN X_30 hx hlk e_30 (t := .boolean) Bd.returns (by simp) (hb hby at_222) (by decide) (by decide) (z' := 1) rfl ⟨Nf, rfl⟩
            · skip
              refine s_icmpNo (pc' := 156) X_30.here hx (hb hby at_153) rfl (feqI (x := r1) (y := ze) hc153).1 ?_
              refine s_iconst (pc' := 157) (z := (0 : Int32)) X_30.here hx (hb hby at_156) rfl rfl ?_
              exfalso
              omega
          refine s_iload (pc' := 98) X_29.here hx (hb hby at_96) rfl rfl ?_
          refine s_iconst (pc' := 99) (z := (1 : Int32)) X_29.here hx (hb hby at_98) rfl rfl ?_
          refine s_icmpNo (pc' := 102) X_29.here hx (hb hby at_99) rfl (fltI (x := (3 : Int32)) (y := (1 : Int32)) (by decide)).1 ?_
          refine s_lload (pc' := 104) X_29.here hx (hb hby at_102) rfl rfl ?_
          refine s_lconst (pc' := 105) (z := (0 : Int64)) X_29.here hx (hb hby at_104) rfl rfl ?_
          refine s_lcmp (pc' := 106) X_29.here hx (hb hby at_105) rfl ?_
          by_cases hc106 : (w0).toInt = (0 : Int)
          · skip
            refine s_ifNo (pc' := 109) X_29.here hx (hb hby at_106) rfl (teqL (x := w0) (y := (0 : Int64)) hc106).2 ?_
            refine s_iload (pc' := 111) X_29.here hx (hb hby at_109) rfl rfl ?_
            refine s_iconst (pc' := 112) (z := (2 : Int32)) X_29.here hx (hb hby at_111) rfl rfl ?_
            refine s_icmpNo (pc' := 115) X_29.here hx (hb hby at_112) rfl (fltI (x := (3 : Int32)) (y := (2 : Int32)) (by decide)).1 ?_
            refine s_lload (pc' := 117) X_29.here hx (hb hby at_115) rfl rfl ?_
            refine s_lconst (pc' := 118) (z := (0 : Int64)) X_29.here hx (hb hby at_117) rfl rfl ?_
            refine s_lcmp (pc' := 119) X_29.here hx (hb hby at_118) rfl ?_
            by_cases hc119 : (w1).toInt = (0 : Int)
            · skip
              refine s_ifNo (pc' := 122) X_29.here hx (hb hby at_119) rfl (teqL (x := w1) (y := (0 : Int64)) hc119).2 ?_
              refine s_iload (pc' := 124) X_29.here hx (hb hby at_122) rfl rfl ?_
              refine s_iconst (pc' := 125) (z := (3 : Int32)) X_29.here hx (hb hby at_124) rfl rfl ?_
              refine s_icmpNo (pc' := 128) X_29.here hx (hb hby at_125) rfl (fltI (x := (3 : Int32)) (y := (3 : Int32)) (by decide)).1 ?_
              refine s_lload (pc' := 130) X_29.here hx (hb hby at_128) rfl rfl ?_
              refine s_lconst (pc' := 131) (z := (0 : Int64)) X_29.here hx (hb hby at_130) rfl rfl ?_
              refine s_lcmp (pc' := 132) X_29.here hx (hb hby at_131) rfl ?_
              by_cases hc132 : (w2).toInt = (0 : Int)
              · skip
                refine s_ifNo (pc' := 135) X_29.here hx (hb hby at_132) rfl (teqL (x := w2) (y := (0 : Int64)) hc132).2 ?_
                refine s_iconst (pc' := 136) (z := (1 : Int32)) X_29.here hx (hb hby at_135) rfl rfl ?_
                refine s_goto (pc' := 140) X_29.here hx (hb hby at_136) (by decide) (by decide) ?_
                exact J140 (1 : Int32) (by exact Or.inl ⟨rfl, by omega⟩)
              · skip
                refine s_ifYes (pc' := 139) X_29.here hx (hb hby at_132) (feqL (x := w2) (y := (0 : Int64)) hc132).2 (by decide) (by decide) ?_
                refine s_iconst (pc' := 140) (z := (0 : Int32)) X_29.here hx (hb hby at_139) rfl rfl ?_
                exact J140 (0 : Int32) (by exact Or.inr ⟨rfl, by omega⟩)
            · skip
              refine s_ifYes (pc' := 139) X_29.here hx (hb hby at_119) (feqL (x := w1) (y := (0 : Int64)) hc119).2 (by decide) (by decide) ?_
              refine s_iconst (pc' := 140) (z := (0 : Int32)) X_29.here hx (hb hby at_139) rfl rfl ?_
              exact J140 (0 : Int32) (by exact Or.inr ⟨rfl, by omega⟩)
          · skip
            refine s_ifYes (pc' := 139) X_29.here hx (hb hby at_106) (feqL (x := w0) (y := (0 : Int64)) hc106).2 (by decide) (by decide) ?_
            refine s_iconst (pc' := 140) (z := (0 : Int32)) X_29.here hx (hb hby at_139) rfl rfl ?_
            exact J140 (0 : Int32) (by exact Or.inr ⟨rfl, by omega⟩)
      refine s_iload (pc' := 40) X0.here hx (hb hby at_38) rfl rfl ?_
      refine s_iconst (pc' := 41) (z := (4 : Int32)) X0.here hx (hb hby at_40) rfl rfl ?_
      refine Win.go (fun _ k => XS.ishr X0.here hx rfl (hb hby at_41) rfl k) ?_
      show Win p.tables e below _ (s₁.setTop (mkF m 42 #[.val (.long q0), .second, .val (.long q1), .second, .val (.long q2), .second, .val (.int p3), .val (.int ln), .val (.long w0), .second, .val (.long w1), .second, .unset, .unset, .unset, .unset, .unset] [(.int (p3 >>> ((4 : Int32) &&& 31)))]))
      refine s_iconst (pc' := 43) (z := (1 : Int32)) X0.here hx (hb hby at_42) rfl rfl ?_
      refine s_iand (pc' := 44) X0.here hx (hb hby at_43) rfl ?_
      by_cases hc44 : (((p3 >>> ((4 : Int32) &&& 31)) &&& (1 : Int32))).toInt = (0 : Int)
      · skip
        refine s_ifYes (pc' := 51) X0.here hx (hb hby at_44) ((if0 _ _).trans (teqI (x := ((p3 >>> ((4 : Int32) &&& 31)) &&& (1 : Int32))) (y := (0 : Int32)) hc44).1) (by decide) (by decide) ?_
        refine s_lload (pc' := 53) X0.here hx (hb hby at_51) rfl rfl ?_
        exact J53 q2 (by trivial)
      · skip
        refine s_ifNo (pc' := 47) X0.here hx (hb hby at_44) rfl ((if0 _ _).trans (feqI (x := ((p3 >>> ((4 : Int32) &&& 31)) &&& (1 : Int32))) (y := (0 : Int32)) hc44).1) ?_
        refine s_lconst (pc' := 48) (z := (0 : Int64)) X0.here hx (hb hby at_47) rfl rfl ?_
        refine s_goto (pc' := 53) X0.here hx (hb hby at_48) (by decide) (by decide) ?_
        exact J53 (0 : Int64) (by trivial)
    refine s_iload (pc' := 24) X0.here hx (hb hby at_22) rfl rfl ?_
    refine s_iconst (pc' := 25) (z := (3 : Int32)) X0.here hx (hb hby at_24) rfl rfl ?_
    refine Win.go (fun _ k => XS.ishr X0.here hx rfl (hb hby at_25) rfl k) ?_
    show Win p.tables e below _ (s₁.setTop (mkF m 26 #[.val (.long q0), .second, .val (.long q1), .second, .val (.long q2), .second, .val (.int p3), .val (.int ln), .val (.long w0), .second, .unset, .unset, .unset, .unset, .unset, .unset, .unset] [(.int (p3 >>> ((3 : Int32) &&& 31)))]))
    refine s_iconst (pc' := 27) (z := (1 : Int32)) X0.here hx (hb hby at_26) rfl rfl ?_
    refine s_iand (pc' := 28) X0.here hx (hb hby at_27) rfl ?_
    by_cases hc28 : (((p3 >>> ((3 : Int32) &&& 31)) &&& (1 : Int32))).toInt = (0 : Int)
    · skip
      refine s_ifYes (pc' := 35) X0.here hx (hb hby at_28) ((if0 _ _).trans (teqI (x := ((p3 >>> ((3 : Int32) &&& 31)) &&& (1 : Int32))) (y := (0 : Int32)) hc28).1) (by decide) (by decide) ?_
      refine s_lloadN (pc' := 36) X0.here hx (hb hby at_35) rfl rfl ?_
      exact J36 q1 (by trivial)
    · skip
      refine s_ifNo (pc' := 31) X0.here hx (hb hby at_28) rfl ((if0 _ _).trans (feqI (x := ((p3 >>> ((3 : Int32) &&& 31)) &&& (1 : Int32))) (y := (0 : Int32)) hc28).1) ?_
      refine s_lconst (pc' := 32) (z := (0 : Int64)) X0.here hx (hb hby at_31) rfl rfl ?_
      refine s_goto (pc' := 36) X0.here hx (hb hby at_32) (by decide) (by decide) ?_
      exact J36 (0 : Int64) (by trivial)
  refine s_iload (pc' := 8) X0.here hx (hb hby at_6) rfl rfl ?_
  refine s_iconst (pc' := 9) (z := (2 : Int32)) X0.here hx (hb hby at_8) rfl rfl ?_
  refine Win.go (fun _ k => XS.ishr X0.here hx rfl (hb hby at_9) rfl k) ?_
  show Win p.tables e below _ (s₁.setTop (mkF m 10 #[.val (.long q0), .second, .val (.long q1), .second, .val (.long q2), .second, .val (.int p3), .val (.int ln), .unset, .unset, .unset, .unset, .unset, .unset, .unset, .unset, .unset] [(.int (p3 >>> ((2 : Int32) &&& 31)))]))
  refine s_iconst (pc' := 11) (z := (1 : Int32)) X0.here hx (hb hby at_10) rfl rfl ?_
  refine s_iand (pc' := 12) X0.here hx (hb hby at_11) rfl ?_
  by_cases hc12 : (((p3 >>> ((2 : Int32) &&& 31)) &&& (1 : Int32))).toInt = (0 : Int)
  · skip
    refine s_ifYes (pc' := 19) X0.here hx (hb hby at_12) ((if0 _ _).trans (teqI (x := ((p3 >>> ((2 : Int32) &&& 31)) &&& (1 : Int32))) (y := (0 : Int32)) hc12).1) (by decide) (by decide) ?_
    refine s_lloadN (pc' := 20) X0.here hx (hb hby at_19) rfl rfl ?_
    exact J20 q0 (by trivial)
  · skip
    refine s_ifNo (pc' := 15) X0.here hx (hb hby at_12) rfl ((if0 _ _).trans (feqI (x := ((p3 >>> ((2 : Int32) &&& 31)) &&& (1 : Int32))) (y := (0 : Int32)) hc12).1) ?_
    refine s_lconst (pc' := 16) (z := (0 : Int64)) X0.here hx (hb hby at_15) rfl rfl ?_
    refine s_goto (pc' := 20) X0.here hx (hb hby at_16) (by decide) (by decide) ?_
    exact J20 (0 : Int64) (by trivial)
set_option maxRecDepth 65536 in
set_option maxHeartbeats 40000000 in
theorem comes_1 {Post : Tables → Env → Array Value → State → Outcome → State → Prop} (hpost : ∀ tb e args s v u, (limb_1_1.after args s (.returned v) u = true ∧ limb_1_2.after args s (.returned v) u = true ∧ True) → FrameEnd s (.returned v) u (Jvm.fieldLocs frame_1_writes args s ++ Jvm.arrayLocs frame_1_arrays args s ++ Jvm.staticLocs frame_1_statics s) 16 128 → Post tb e args s (.returned v) u) :
    ArmFor flags0 classFile x code maxLocals ret World_1 tables_1 room_1 Calls_1 rest_1 Pre_1 Post := by
  intro l hfl _ _ p e ha hc hk s m args below hf hA hF happ hP
  obtain ⟨hcalls, hrest, hpre⟩ := hP
  obtain ⟨-, -, -, hnamed, -, -, -, hat⟩ := (Spec.applies_iff hf).mp happ
  obtain ⟨hg, hn⟩ := and_e (Cond.before_iff.mp (show (Jvm.Cond.and given_1 narrow_1).before args s = true from hpre))
  obtain ⟨g1, g2⟩ := and_e hg
  obtain ⟨g3, g4⟩ := and_e g2
  obtain ⟨g5, g6⟩ := and_e g4
  obtain ⟨g7, g8⟩ := and_e g6
  obtain ⟨w0, w1, w2, w3, rfl⟩ : ∃ w0 w1 w2 w3 : Value, args = #[w0, w1, w2, w3] := by
    have hs : args.size = 4 := by simpa [Cond.value, given_1] using g1
    obtain ⟨L⟩ := args
    match L, hs with
    | [w0, w1, w2, w3], _ => exact ⟨w0, w1, w2, w3, rfl⟩
  have hw := fun d (hd : d ∈ tables_1) => atoms_spec (ws := Jvm.Cond.code x code maxLocals ret :: tables_1) hat d (List.mem_cons_of_mem _ hd)
  have hfit : Fit s := fun {y c} hc i hi => by
    obtain ⟨ha, rfl⟩ := Array.getElem?_eq_some_iff.mp hc
    have q := List.all_eq_true.mp ((Array.all_eq_true_iff_forall_mem.mp hF) _ (Array.getElem_mem ha)) i (List.mem_range.mpr hi)
    simpa [Array.getElem?_eq_getElem hi] using q
  obtain ⟨i0, ei0⟩ := isL_v g3
  obtain rfl : w0 = (.long i0) := Option.some.inj ei0
  obtain ⟨i1, ei1⟩ := isL_v g5
  obtain rfl : w1 = (.long i1) := Option.some.inj ei1
  obtain ⟨i2, ei2⟩ := isL_v g7
  obtain rfl : w2 = (.long i2) := Option.some.inj ei2
  obtain ⟨i3, ei3⟩ := is_v g8
  obtain rfl : w3 = (.int i3) := Option.some.inj ei3
  obtain ⟨n, o, h1, h2, h3, _, L, rfl, ⟨N, rfl⟩, hq⟩ := rm0 l s _ hw tables_1 i0 i1 i2 i3 s.heap s.heap.size (Nat.le_refl _) p e ha hc hk s m _ below hf ((Spec.applies_iff_loose hf).mp happ).1 ⟨rfl, State.Warmed39.refl s, rfl⟩ trivial
  refine ⟨n, _, h1, h2, h3, hpost _ _ _ _ _ _ ⟨Cond.after_iff.mpr rfl, Cond.after_iff.mpr (eq_i res_at (Term.int_eval (1)) rfl), trivial⟩ ⟨hq.1, hq.2.1, (hq.2.2.sift fun y hy => Or.inr (N y hy)).mono (by decide) (by decide)⟩⟩
theorem main_1_1 : Claimed_1_1 := comes_1 fun _ _ _ _ _ _ h hF => ⟨h.1, hF⟩
theorem main_1_2 : Claimed_1_2 := comes_1 fun _ _ _ _ _ _ h hF => ⟨h.2.1, hF⟩
end Jvm.Pilot.@@N@@
namespace Jvm.Pilot.@@N@@
open Jvm Jvm.ClassFile Sem Op Lib Jvm.Free Jvm.Stand Jvm.Pilot.@@N@@.Jvm.D
/-! MADE BY PROGRAM (witnessworld.py) out of the Statement's table words and the real class files: 11 classes; the members and pool entries that the words name. The judged class is class 1, her method 1. -/
namespace start1
open Jvm.ClassFile
def u (s : String) : CpInfo := .utf8 (stringToUtf16 s)
/-- a pool by its gaps: so many unusable entries, then the entry; so many at the end -/
def gap : Nat → List CpInfo → List CpInfo
  | 0, r => r
  | n + 1, r => .unusable :: gap n r
def poolList (es : List (Nat × CpInfo)) (last : Nat) : List CpInfo := es.foldr (fun e r => gap e.1 (e.2 :: r)) (gap last [])
def pool (es : List (Nat × CpInfo)) (last : Nat) : Array CpInfo := ⟨poolList es last⟩
def fileOf (pool : Array CpInfo) (this : Nat) (attrs : Array Attribute := #[]) (ms : Array MethodInfo := #[]) (fl : Nat := 33) (sup : Nat := 0) (ifs : Array Nat := #[]) (fds : Array FieldInfo := #[]) : ClassFile where
  minorVersion := 0
  majorVersion := 65
  constantPool := pool
  accessFlags := fl
  thisClass := this
  superClass := sup
  interfaces := ifs
  fields := fds
  methods := ms
  attributes := attrs
def plain (name : String) (sup : Option ClassId) : Class where
  name := name
  kind := .ordinary
  loader := none
  accessFlags := 33
  super := sup
  interfaces := #[]
  cf := none
  fields := #[]
  methods := #[]
  instanceTypes := #[]
  staticTypes := #[]
  resolved := #[]
  callSites := []
  init := .initialized
  statics := none
  mirror := none

def pool0 : Array CpInfo := pool [(5, u "<init>"), (0, u "()V"), (1, .class_ 10), (1, u "java/lang/Object")] 113

def k0m0 : Method := { name := "<init>", desc := "()V", sig := { parameters := [], returnType := none }, accessFlags := 1, code := none }
/-- java/lang/Object -/
def k0 : Class := { plain "java/lang/Object" none with
  accessFlags := 33
  interfaces := #[]
  cf := some (fileOf pool0 8 #[] #[{ accessFlags := 1, nameIndex := 5, descriptorIndex := 6, attributes := #[] }] 33 0 #[] #[])
  fields := #[]
  methods := #[k0m0]
  instanceTypes := #[]
  staticTypes := #[]
  resolved := Array.replicate 124 none
  statics := none }

def pool1 : Array CpInfo := pool [(2, .class_ 4), (1, u "java/lang/Object"), (0, u "<init>"), (0, u "()V"), (0, .methodref 8 9), (0, .class_ 10), (0, .nameAndType 11 12), (0, u "com/example/faithful_deputy/faithfuldeputy/Bits"), (0, u "isEmpty"), (0, u "([J)Z"), (0, .class_ 14), (0, u "com/example/faithful_deputy/faithfuldeputy/BitsIsEmptyPinLaw"), (2, u "law"), (0, u "(JJJI)Z")] 5

def k1m0 : Method := { name := "<init>", desc := "()V", sig := { parameters := [], returnType := none }, accessFlags := 2, code := none }
def k1c1 : Code := { maxStack := 4, maxLocals := 17, code := code, exceptionTable := #[], attributes := #[] }
def k1m1 : Method := { name := "law", desc := "(JJJI)Z", sig := { parameters := [.long, .long, .long, .int], returnType := some .boolean }, accessFlags := 9, code := some k1c1 }
/-- com/example/faithful_deputy/faithfuldeputy/BitsIsEmptyPinLaw -/
def k1 : Class := { plain "com/example/faithful_deputy/faithfuldeputy/BitsIsEmptyPinLaw" (some 0) with
  accessFlags := 49
  interfaces := #[]
  cf := some (fileOf pool1 13 #[] #[{ accessFlags := 2, nameIndex := 5, descriptorIndex := 6, attributes := #[] }, { accessFlags := 9, nameIndex := 17, descriptorIndex := 18, attributes := #[] }] 49 2 #[] #[])
  fields := #[]
  methods := #[k1m0, k1m1]
  instanceTypes := #[]
  staticTypes := #[]
  resolved := Array.replicate 24 none
  statics := none }

def pool2 : Array CpInfo := pool [(4, .class_ 6), (1, u "java/lang/Object"), (0, u "<init>"), (0, u "()V"), (0, .class_ 10), (0, u "com/example/faithful_deputy/faithfuldeputy/Bits"), (13, u "WORD"), (0, u "I"), (23, u "isEmpty"), (0, u "([J)Z")] 6

def k2m0 : Method := { name := "<init>", desc := "()V", sig := { parameters := [], returnType := none }, accessFlags := 2, code := none }
def k2c1 : Code := { maxStack := 4, maxLocals := 6, code := prog_2_method_14_code, exceptionTable := #[], attributes := #[] }
def k2m1 : Method := { name := "isEmpty", desc := "([J)Z", sig := { parameters := [(.array .long)], returnType := some .boolean }, accessFlags := 8, code := some k2c1 }
/-- com/example/faithful_deputy/faithfuldeputy/Bits -/
def k2 : Class := { plain "com/example/faithful_deputy/faithfuldeputy/Bits" (some 0) with
  accessFlags := 48
  interfaces := #[]
  cf := some (fileOf pool2 9 #[] #[{ accessFlags := 2, nameIndex := 7, descriptorIndex := 8, attributes := #[] }, { accessFlags := 8, nameIndex := 49, descriptorIndex := 50, attributes := #[] }] 48 4 #[] #[{ accessFlags := 24, nameIndex := 24, descriptorIndex := 25, attributes := #[] }])
  fields := #[{ name := "WORD", type := .int, accessFlags := 24, slot := 0, constantValue := 0 }]
  methods := #[k2m0, k2m1]
  instanceTypes := #[]
  staticTypes := #[.int]
  resolved := Array.replicate 57 none
  statics := none }

def pool3 : Array CpInfo := pool [(1, u "java/lang/Cloneable"), (0, .class_ 1), (0, u "java/lang/Object"), (0, .class_ 3)] 3

/-- java/lang/Cloneable -/
def k3 : Class := { plain "java/lang/Cloneable" (some 0) with
  accessFlags := 1537
  interfaces := #[]
  cf := some (fileOf pool3 2 #[] #[] 1537 4 #[] #[])
  fields := #[]
  methods := #[]
  instanceTypes := #[]
  staticTypes := #[]
  resolved := Array.replicate 8 none
  statics := none }

def pool4 : Array CpInfo := pool [(1, u "java/io/Serializable"), (0, .class_ 1), (0, u "java/lang/Object"), (0, .class_ 3)] 3

/-- java/io/Serializable -/
def k4 : Class := { plain "java/io/Serializable" (some 0) with
  accessFlags := 1537
  interfaces := #[]
  cf := some (fileOf pool4 2 #[] #[] 1537 4 #[] #[])
  fields := #[]
  methods := #[]
  instanceTypes := #[]
  staticTypes := #[]
  resolved := Array.replicate 8 none
  statics := none }

/-- the primitive byte -/
def k5 : Class := { plain "byte" none with kind := .primitive 'B', accessFlags := 0x411 }
/-- [B -/
def k6 : Class := { plain "[B" (some 0) with kind := .array 5 .byte, interfaces := #[3, 4], accessFlags := 1041 }

/-- the primitive int -/
def k7 : Class := { plain "int" none with kind := .primitive 'I', accessFlags := 0x411 }
/-- [I -/
def k8 : Class := { plain "[I" (some 0) with kind := .array 7 .int, interfaces := #[3, 4], accessFlags := 1041 }

/-- the primitive long -/
def k9 : Class := { plain "long" none with kind := .primitive 'J', accessFlags := 0x411 }
/-- [J -/
def k10 : Class := { plain "[J" (some 0) with kind := .array 9 .long, interfaces := #[3, 4], accessFlags := 1041 }

def heap : Heap := #[]
def classes : Array Class := #[k0, k1, k2, k3, k4, k5, k6, k7, k8, k9, k10]
def interned : List (Array UInt16 × Addr) := []
def slotsUsed : Nat := 0
def theMethod : MethodId := ⟨1, 1⟩
def args0 : Array Value := #[.long 5, .long 5, .long 5, .int 5]
def aboutOver (below : List Frame) : State where
  vm := { classes := classes, interned := interned.toArray }
  heap := heap
  slotsUsed := slotsUsed
  threads := #[{ frames := .invoking theMethod args0 :: below }]
def below0 : List Frame := [.native { method := ⟨0, 0⟩, args := #[] }]
def about1 : State := aboutOver below0
def p0 : Program := .bare "" "" ""
def e0 : Env := launch0.env 0 0 0
theorem w_frames : about1.frames = Frame.invoking theMethod args0 :: below0 := rfl
set_option maxRecDepth 65536 in
theorem w_args : argsFit about1.vm theMethod args0 = true := by decide +kernel
set_option maxRecDepth 65536 in
theorem w_heap : heapFits about1 = true := by decide +kernel
set_option maxRecDepth 65536 in
theorem w_runnable : about1.curStatus? = some .runnable := by decide +kernel
set_option maxRecDepth 65536 in
theorem w_alone : about1.alone = true := by decide +kernel
set_option maxRecDepth 65536 in
theorem w_named : about1.methodNamed? x = some theMethod := by decide +kernel
set_option maxRecDepth 65536 in
theorem w_hears : about1.hears theMethod below0 = true := by decide +kernel
set_option maxRecDepth 65536 in
theorem w_ripe : about1.ripe theMethod args0 below0 = true := by decide +kernel
theorem w_running : about1.status = .running := rfl
set_option maxRecDepth 65536 in
theorem w_room : about1.hasRoom e0.platform room_1 = true :=
  launch0.hasRoom_least _ room_1 (by decide +kernel) (by decide +kernel) (by decide +kernel) (by decide +kernel) (by decide +kernel) (by decide +kernel)
theorem allAtoms_all (ts : List Jvm.Cond) (a : Array Jvm.Value) (st : Jvm.State) : (allAtoms ts).before a st = ts.all (fun c => c.before a st) := by
  induction ts with
  | nil => rfl
  | cons c t ih =>
    show (Jvm.Cond.and c (allAtoms t)).before a st = _
    rw [Jvm.Cond.before_and, ih, List.all_cons]
def words1 : List Jvm.Cond := Jvm.Cond.code x code maxLocals ret :: tables_1
/-- a 'code' word, met by the world's own term for the bytes: nothing is compared byte by byte -/
theorem code_word {y : MethodName} {bytes : ByteArray} {mx : Nat} {rt : Option FieldType} {a : Array Value} {s : State} {m : MethodId} {meth : Method} {c : Code} (h1 : s.methodNamed? y = some m) (h2 : s.vm.method? m = some meth) (h3 : meth.code = some c) (h4 : c.code = bytes)
    (h5 : (c.maxLocals == mx && c.exceptionTable.isEmpty && decide (c.maxStack ≤ mostOperands) && decide (meth.sig.returnType = rt) && !meth.locks && decide (parseMethodDescriptor y.desc = some meth.sig)) = true) : (Jvm.Cond.code y bytes mx rt).before a s = true := by
  simp only [Bool.and_eq_true, beq_iff_eq, Bool.not_eq_true', decide_eq_true_eq] at h5
  obtain ⟨⟨⟨⟨⟨g1, g2⟩, g3⟩, g4⟩, g5⟩, g6⟩ := h5
  simp [Cond.before, Cond.holds, Cond.value, h1, h2, h3, h4, g1, g2, g3, g4, g5, g6]
def isCode : Jvm.Cond → Bool
  | .code _ _ _ _ => true
  | _ => false
theorem all_split {L : List Jvm.Cond} {P : Jvm.Cond → Bool} (h1 : L.all (fun c => isCode c || P c) = true) (h2 : ∀ c ∈ L.filter isCode, P c = true) : L.all P = true := by
  refine List.all_eq_true.mpr fun c hc => ?_
  have h := List.all_eq_true.mp h1 c hc
  rcases Bool.eq_false_or_eq_true (isCode c) with hi | hi
  · exact h2 c (List.mem_filter.mpr ⟨hc, hi⟩)
  · simpa [hi] using h
set_option maxRecDepth 65536 in
theorem w_c0 : (Jvm.Cond.code x code maxLocals ret).before args0 about1 = true := code_word (m := ⟨1, 1⟩) (meth := k1m1) (c := k1c1) (by decide +kernel) rfl rfl rfl (by decide +kernel)
set_option maxRecDepth 65536 in
theorem w_c1 : (Jvm.Cond.code ({ cls := "com/example/faithful_deputy/faithfuldeputy/Bits", name := "isEmpty", desc := "([J)Z" } : Jvm.MethodName) prog_2_method_14_code (6 : Nat) (Option.some Jvm.ClassFile.FieldType.boolean)).before args0 about1 = true := code_word (m := ⟨2, 1⟩) (meth := k2m1) (c := k2c1) (by decide +kernel) rfl rfl rfl (by decide +kernel)
def codes1 : List Jvm.Cond := [Jvm.Cond.code x code maxLocals ret, Jvm.Cond.code ({ cls := "com/example/faithful_deputy/faithfuldeputy/Bits", name := "isEmpty", desc := "([J)Z" } : Jvm.MethodName) prog_2_method_14_code (6 : Nat) (Option.some Jvm.ClassFile.FieldType.boolean)]
set_option maxRecDepth 65536 in
theorem codes_eq : words1.filter isCode = codes1 := rfl
theorem w_codes : ∀ c ∈ words1.filter isCode, c.before args0 about1 = true := by
  rw [codes_eq]
  intro c hc
  simp only [codes1, List.mem_cons, List.not_mem_nil, or_false] at hc
  rcases hc with rfl | rfl
  · exact w_c0
  · exact w_c1
set_option maxRecDepth 65536 in
theorem w_t1 : words1.all (fun c => isCode c || c.before args0 about1) = true := by decide +kernel
theorem w_tables : (allAtoms (Jvm.Cond.code x code maxLocals ret :: tables_1)).before args0 about1 = true := by
  rw [allAtoms_all]
  show words1.all (fun c => c.before args0 about1) = true
  refine all_split ?_ w_codes
  rw [w_t1]
set_option maxRecDepth 65536 in
theorem w_case : (Jvm.Cond.and given_1 narrow_1).before args0 about1 = true := by decide +kernel
theorem w_applies : (headSpec (Jvm.Cond.code x code maxLocals ret :: tables_1) room_1).applies x e0.platform about1 = true :=
  (Spec.applies_iff w_frames).mpr ⟨w_running, w_runnable, w_alone, w_named, w_hears, w_ripe, w_room, w_tables⟩
theorem atStart : AtStart classFile x code maxLocals ret World_1 tables_1 room_1 Calls_1 rest_1 Pre_1 launch0 p0 e0 about1 theMethod args0 below0 :=
  ⟨lists_1, trivial, launch0.admits_env _ _ _, launch0.least_env, fairChoices_fair.cas, fairChoices_fair.clock, w_frames, w_args, w_heap, w_applies, trivial, trivial, w_case⟩
end start1
theorem witness_1 : WitnessClaimed_1 := ⟨start1.p0, start1.e0, start1.about1, start1.theMethod, start1.args0, start1.below0, start1.atStart⟩
end Jvm.Pilot.@@N@@
